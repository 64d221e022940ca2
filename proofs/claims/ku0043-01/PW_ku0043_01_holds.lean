import PyProof.Rows.All
import Wide.All
import OpenK.AllK
import Wide.FinOn
import PySem.Challenge.RW_ku0043_01
set_option Elab.async false
section
open PySem PySem.W PyProof.Rows
set_option maxRecDepth 100000
namespace Mine

section
variable {p : Program} {w : World} {b : List Stmt} {env : Env} {q : Pos} {α β : Type}

/-- the run of a tree at the module's level, told as a predicate -/
def Gp (c : Nat) (p : Program) (w : World) (b : List Stmt) (env : Env) (q : Pos) {α : Type} (x : Sem α) (s : Shared) (Q : α → Shared → Prop) : Prop :=
  ∀ (K : α → Sem Fin) (H : Value → Sem Fin) (gd : Bool → Bool) (lv : List Value → List Value) (pos : Pos), ∃ a s' pos' n, n ≤ c ∧ Q a s' ∧
    ∀ N r, topRun treeTable p w 28 (some (.ref 6)) N s' ⟨K a, .body b env, pos', [topFrame q]⟩ = some r →
      topRun treeTable p w 28 (some (.ref 6)) (N + n) s ⟨x.wrap K H gd lv, .body b env, pos, [topFrame q]⟩ = some r

theorem gp_pure {a : α} {s : Shared} {Q : α → Shared → Prop} (h : Q a s) : Gp 0 p w b env q (Pure.pure a : Sem α) s Q :=
  fun _ _ _ _ pos => ⟨a, s, pos, 0, Nat.le_refl _, h, fun _ _ e => e⟩
theorem gp_le {c c' : Nat} {x : Sem α} {s : Shared} {Q : α → Shared → Prop} (h : Gp c p w b env q x s Q) (hc : c ≤ c') : Gp c' p w b env q x s Q := fun K H gd lv pos =>
  let ⟨a, s', pos', n, hn, ha, e⟩ := h K H gd lv pos; ⟨a, s', pos', n, Nat.le_trans hn hc, ha, e⟩
theorem gp_bind {c₁ c₂ : Nat} {m : Sem α} {f : α → Sem β} {s : Shared} {Q : β → Shared → Prop} (h : Gp c₁ p w b env q m s fun a s' => Gp c₂ p w b env q (f a) s' Q) : Gp (c₁ + c₂) p w b env q (m >>= f) s Q := by
  intro K H gd lv pos
  obtain ⟨a, s', pos', n, hn, ha, k⟩ := h (fun a => (f a).wrap K H gd lv) H gd lv pos
  obtain ⟨c, s'', pos'', n', hn', hc, k'⟩ := ha K H gd lv pos'
  refine ⟨c, s'', pos'', n' + n, by omega, hc, fun N r e => ?_⟩
  rw [Sem.bind_eq_wrap', Sem.wrap_wrap, ← Nat.add_assoc]
  exact k _ r (k' N r e)
theorem gp_mono {c : Nat} {m : Sem α} {s : Shared} {Q Q' : α → Shared → Prop} (h : Gp c p w b env q m s Q) (k : ∀ a s', Q a s' → Q' a s') : Gp c p w b env q m s Q' := fun K H gd lv pos =>
  let ⟨a, s', pos', n, hn, ha, e⟩ := h K H gd lv pos; ⟨a, s', pos', n, hn, k _ _ ha, e⟩
theorem gp_keep {c : Nat} {m : Sem α} {vs : List Value} {s : Shared} {Q : α → Shared → Prop} (h : Gp c p w b env q m s Q) : Gp c p w b env q (m.keep vs) s Q := by
  intro K H gd lv pos
  obtain ⟨a, s', pos', n, hn, ha, k⟩ := h K H gd (fun l => lv (vs ++ l)) pos
  refine ⟨a, s', pos', n, hn, ha, fun N r e => ?_⟩
  rw [Sem.keep_eq_wrap, Sem.wrap_wrap]
  exact k N r e
theorem gp_holding {c : Nat} {m : Sem α} {vs : List Value} {s : Shared} {Q : α → Shared → Prop} (h : Gp c p w b env q m s Q) : Gp c p w b env q (holding vs m) s Q := by
  unfold holding
  split
  · exact h
  · exact gp_keep h
theorem gp_onRaise {c : Nat} {m : Sem α} {k : Value → Sem Unit} {s : Shared} {Q : α → Shared → Prop} (h : Gp c p w b env q m s Q) : Gp c p w b env q (m.onRaise k) s Q := by
  intro K H gd lv pos
  obtain ⟨a, s', pos', n, hn, ha, kk⟩ := h K (fun e => ((k e).bind fun _ => (Sem.raise e : Sem α)).wrap K H gd lv) gd lv pos
  refine ⟨a, s', pos', n, hn, ha, fun N r e => ?_⟩
  rw [Sem.onRaise_eq_wrap, Sem.wrap_wrap]
  exact kk N r e
theorem gp_of_eq {c : Nat} {m m' : Sem α} {s : Shared} {Q : α → Shared → Prop} (e : m = m') (h : Gp c p w b env q m' s Q) : Gp c p w b env q m s Q := e ▸ h

theorem top_step {s s' : Shared} {t t' : Thread} (h1 : through t = false) (h2 : stepOk 28 (some (.ref 6)) t = true) (h3 : step (denote treeTable) p w s t = .go s' t') (N : Nat) :
    topRun treeTable p w 28 (some (.ref 6)) (N + 1) s t = topRun treeTable p w 28 (some (.ref 6)) N s' t' := by
  conv => lhs; unfold topRun
  rw [h1]; dsimp only; rw [h2]; dsimp only; rw [h3]

theorem gp_load {a : Addr} {part : Option Value} {o : Obj} {s : Shared} {Q : Obj → Shared → Prop} (ho : s.heap.get? a = some o) (h : Q o s) : Gp 1 p w b env q (loadPart a part) s Q := by
  intro K H gd lv pos
  refine ⟨o, s, pos, 1, Nat.le_refl _, h, fun N r e => ?_⟩
  obtain ⟨heap, gens, drawn, toks, os⟩ := s
  rw [top_step rfl rfl (t' := ⟨K o, .body b env, pos, [topFrame q]⟩) (s' := ⟨heap, gens, drawn, toks, os⟩) ?_]
  · exact e
  · dsimp only at ho
    simp only [loadPart, Sem.wrap, step, ho]
theorem gp_update {a : Addr} {part : Option Value} {f : Obj → Obj} {o : Obj} {s : Shared} {Q : Unit → Shared → Prop} (ha : 28 ≤ a) (ho : s.heap.get? a = some o) (h : Q () { s with heap := s.heap.update a f }) :
    Gp 1 p w b env q (updatePart a part f) s Q := by
  intro K H gd lv pos
  refine ⟨(), _, pos, 1, Nat.le_refl _, h, fun N r e => ?_⟩
  obtain ⟨heap, gens, drawn, toks, os⟩ := s
  rw [top_step rfl ?_ (t' := ⟨K (), .body b env, pos, [topFrame q]⟩) (s' := ⟨heap.update a f, gens, drawn, toks, os⟩) ?_]
  · exact e
  · show (true && (Nat.ble 28 a || a == mainNs || a == cStatics || some (Value.ref 6) == some (Value.ref a))) = true
    rw [Nat.ble_eq_true_of_le ha]; rfl
  · dsimp only at ho
    simp only [updatePart, Sem.wrap, step, ho, Option.isSome_some, if_true]
theorem gp_alloc {o : Obj} {s : Shared} {Q : Addr → Shared → Prop} (h : Q s.heap.objs.size { s with heap := s.heap.push o }) : Gp 1 p w b env q (alloc o) s Q := by
  intro K H gd lv pos
  exact ⟨_, _, pos, 1, Nat.le_refl _, h, fun N r e => by obtain ⟨heap, gens, drawn, toks, os⟩ := s; rw [top_step rfl rfl rfl]; exact e⟩
theorem gp_fresh {s : Shared} {Q : Tok → Shared → Prop} (h : Q s.toks { s with toks := s.toks + 1 }) : Gp 1 p w b env q fresh s Q := by
  intro K H gd lv pos
  exact ⟨_, _, pos, 1, Nat.le_refl _, h, fun N r e => by obtain ⟨heap, gens, drawn, toks, os⟩ := s; rw [top_step rfl rfl rfl]; exact e⟩
theorem gp_rule {t : String} {s : Shared} {Q : Unit → Shared → Prop} (h : Q () s) : Gp 1 p w b env q (rule t) s Q := by
  intro K H gd lv pos
  exact ⟨_, _, pos, 1, Nat.le_refl _, h, fun N r e => by obtain ⟨heap, gens, drawn, toks, os⟩ := s; rw [top_step rfl rfl rfl]; exact e⟩
theorem gp_at {x : Pos} {s : Shared} {Q : Unit → Shared → Prop} (h : Q () s) : Gp 1 p w b env q (standAt x) s Q := by
  intro K H gd lv pos
  exact ⟨_, _, x, 1, Nat.le_refl _, h, fun N r e => by obtain ⟨heap, gens, drawn, toks, os⟩ := s; rw [top_step rfl rfl rfl]; exact e⟩
theorem gp_point {s : Shared} {Q : Unit → Shared → Prop} (h : Q () s) : Gp 1 p w b env q point s Q := by
  intro K H gd lv pos
  exact ⟨_, _, pos, 1, Nat.le_refl _, h, fun N r e => by obtain ⟨heap, gens, drawn, toks, os⟩ := s; rw [top_step rfl rfl rfl]; exact e⟩
theorem gp_ask {s : Shared} {Q : Setting → Shared → Prop} (h : Q ⟨p, w.params⟩ s) : Gp 1 p w b env q ask s Q := by
  intro K H gd lv pos
  exact ⟨_, _, pos, 1, Nat.le_refl _, h, fun N r e => by obtain ⟨heap, gens, drawn, toks, os⟩ := s; rw [top_step rfl rfl rfl]; exact e⟩

/-- int.__hash__ called -/
theorem gp_hash_call {k : Int} {t : Tok} {s : Shared} {Q : Value → Shared → Prop} (h : Q (.int (rawHash k) s.toks) { s with toks := s.toks + 1 }) : Gp 4 p w b env q (call (.builtin "int.__hash__") [.int k t] []) s Q := by
  intro K H gd lv pos
  obtain ⟨heap, gens, drawn, toks, os⟩ := s
  refine ⟨_, _, pos, 4, Nat.le_refl _, h, fun N r e => Eq.trans ?_ e⟩
  kernel_rfl!
end
end Mine
end
section
open PySem PySem.W PyProof.Rows
set_option maxRecDepth 100000
namespace Mine
section
variable {p : Program} {w : World} {b : List Stmt} {env : Env} {q : Pos} {α β : Type}

theorem gp_for {γ : Type} {c : Nat} {Q : PUnit → Shared → Prop} {f : γ → PUnit → Sem (ForInStep PUnit)} (I : List γ → Shared → Prop)
    (turn : ∀ x rest s, I (x :: rest) s → Gp c p w b env q (f x ⟨⟩) s fun r s' => r = .yield ⟨⟩ ∧ I rest s') :
    ∀ (l : List γ) (s : Shared), I l s → (∀ s', I [] s' → Q ⟨⟩ s') → Gp (c * l.length) p w b env q (forIn l ⟨⟩ f) s Q
  | [], s, h, e => by rw [List.forIn_nil]; exact gp_pure (e s h)
  | x :: l, s, h, e => by
    rw [List.forIn_cons]
    refine gp_le (gp_bind (c₁ := c) (c₂ := c * l.length) (gp_mono (turn x l s h) ?_)) (by rw [List.length_cons, Nat.mul_add]; omega)
    rintro r s' ⟨rfl, h'⟩
    exact gp_for I turn l s' h' e

/-- a dict of the top's own making -/
def dObj (es : List DictEntry) : Obj := { cls := .type "dict", data := .dict ⟨es⟩ es.length }
/-- the heap h with the objects os behind it -/
def Hp (h : Heap) (os : List Obj) : Heap := ⟨h.objs ++ ⟨os⟩, h.life⟩
theorem hp_size (h : Heap) (os : List Obj) : (Hp h os).objs.size = h.objs.size + os.length := by simp [Hp]
theorem hp_push (h : Heap) (os : List Obj) (o : Obj) : (Hp h os).push o = Hp h (os ++ [o]) := by
  simp [Hp, Heap.push]
theorem hp_get {h : Heap} {l r : List Obj} {es : List DictEntry} {a : Addr} (e : a = h.objs.size + l.length) : (Hp h (l ++ dObj es :: r)).get? a = some (dObj es) := by
  subst e
  have : (Hp h (l ++ dObj es :: r)).objs[h.objs.size + l.length]? = some (dObj es) := by
    simp [Hp]
  unfold Heap.get?
  rw [this]; rfl
theorem modify_mid {γ : Type} {o : γ} {r : List γ} {f : γ → γ} : ∀ l : List γ, (l ++ o :: r).modify l.length f = l ++ f o :: r
  | [] => by simp
  | x :: l => by rw [List.cons_append, List.length_cons, List.modify_succ_cons, modify_mid l]; rfl
theorem hp_update {h : Heap} {l r : List Obj} {o : Obj} {a : Addr} {f : Obj → Obj} (e : a = h.objs.size + l.length) : (Hp h (l ++ o :: r)).update a f = Hp h (l ++ f o :: r) := by
  subst e
  simp only [Hp, Heap.update, Heap.mk.injEq, and_true]
  apply Array.ext'
  simp only [Array.toList_modify, Array.toList_append]
  have := modify_mid (o := o) (r := r) (f := f) (h.objs.toList ++ l)
  simp only [List.append_assoc, List.length_append, Array.length_toList] at this
  exact this

theorem gp_typeOf_ref {a : Addr} {o : Obj} {s : Shared} {Q : Value → Shared → Prop} (ho : s.heap.get? a = some o) (h : Q o.cls s) : Gp 1 p w b env q (typeOf (.ref a)) s Q := by
  unfold typeOf
  exact gp_bind (c₁ := 1) (c₂ := 0) (gp_load ho (gp_pure h))
theorem gp_dictEntries {d : Addr} {es : List DictEntry} {part : Option Value} {s : Shared} {Q : Array DictEntry → Shared → Prop} (ho : s.heap.get? d = some (dObj es)) (h : Q ⟨es⟩ s) : Gp 1 p w b env q (dictEntries d part) s Q := by
  unfold dictEntries
  exact gp_bind (c₁ := 1) (c₂ := 0) (gp_load ho (gp_pure h))
theorem gp_dictEpoch {d : Addr} {es : List DictEntry} {part : Option Value} {s : Shared} {Q : Nat → Shared → Prop} (ho : s.heap.get? d = some (dObj es)) (h : Q es.length s) : Gp 1 p w b env q (dictEpoch d part) s Q := by
  unfold dictEpoch
  exact gp_bind (c₁ := 1) (c₂ := 0) (gp_load ho (gp_pure h))

theorem places_nil {es : List DictEntry} {k : Int} (h : ∀ e ∈ es, e.hash ≠ k) : placesWithHash (Array.mk es).size (fun i => Option.map (fun x : DictEntry => x.hash) (Array.mk es)[i]?) k = [] := by
  unfold placesWithHash
  rw [List.filter_eq_nil_iff]
  intro i hi
  rw [List.mem_range] at hi
  simp only [beq_iff_eq]
  intro e
  have hi' : i < es.length := by simpa using hi
  have : (Array.mk es)[i]? = some es[i] := by simp [hi']
  rw [this] at e
  simp only [Option.map_some, Option.some.injEq] at e
  exact h _ (List.getElem_mem hi') e

theorem gp_dictFind_none {d : Addr} {es : List DictEntry} {k : Int} {t : Tok} {s : Shared} {Q : Option Nat → Shared → Prop} (ho : s.heap.get? d = some (dObj es)) (hk : ∀ e ∈ es, e.hash ≠ k) (h : Q none s) :
    Gp 1 p w b env q (dictFind d (.int k t) k) s Q := by
  unfold dictFind
  refine gp_holding (gp_bind (c₁ := 1) (c₂ := 0) (gp_dictEntries ho ?_))
  dsimp only
  rw [places_nil hk]
  have e : (Value.int k t :: List.filterMap (fun i : Nat => Option.map (fun x : DictEntry => x.key) (Array.mk es)[i]?) []).all carriedByValue = true := rfl
  rw [if_pos e]
  unfold dictWalkPlain
  refine gp_bind (c₁ := 0) (c₂ := 0) ?_
  rw [List.forIn_nil]
  exact gp_pure (gp_pure h)

theorem gp_updateKeys {d : Addr} {es : List DictEntry} {e : DictEntry} {part : Option Value} {s : Shared} {Q : Unit → Shared → Prop} (hd : 28 ≤ d) (ho : s.heap.get? d = some (dObj es))
    (hg : (s.heap.update d (Obj.mapDictKeys fun a => a.push e)).get? d = some (dObj (es ++ [e]))) (hz : es.length < 1000) (h : Q () { s with heap := s.heap.update d (Obj.mapDictKeys fun a => a.push e) }) :
    Gp 3 p w b env q (updateDictKeys d (fun a => a.push e) part) s Q := by
  unfold updateDictKeys lookBehind
  refine gp_bind (c₁ := 1) (c₂ := 2) (gp_load ho ?_)
  show Gp 2 p w b env q (updatePart d part (Obj.mapDictKeys fun a => a.push e) >>= _) s Q
  refine gp_bind (c₁ := 1) (c₂ := 1) (gp_update hd ho (gp_bind (c₁ := 1) (c₂ := 0) (gp_load hg ?_)))
  have : (dObj (es ++ [e])).data.pastItsLine = none := by
    unfold dObj Data.pastItsLine
    have hsz : (Array.mk (es ++ [e])).size = es.length + 1 := by simp
    have hl : ¬ (Array.mk (es ++ [e])).size > sizeLine + 1 := by rw [hsz, sizeLine_eq]; omega
    exact if_neg hl
  rw [this]
  exact gp_pure h

theorem small_hash {k : Int} (h0 : 0 ≤ k) (h1 : k < 2000000) : rawHash k = k := by
  unfold rawHash
  dsimp only
  rw [if_neg (by omega : ¬ k < 0)]
  have e : ((k.natAbs : Int) % ((2 ^ 61 - 1 : Nat) : Int)) = k := by
    rw [show ((k.natAbs : Int)) = k by omega]
    exact Int.emod_eq_of_lt h0 (by omega)
  rw [e]
  simp only [beq_iff_eq]
  rw [if_neg (by omega)]

theorem typeLookup_hash : typeLookup (.type "int") (Str.ofString "__hash__") = pure (some (.builtin "int.__hash__")) := slot_int_hash.lookup

theorem gp_pyHash {k : Int} {t : Tok} {s : Shared} {Q : Int → Shared → Prop} (h0 : 0 ≤ k) (h1 : k < 2000000) (h : Q k { s with toks := s.toks + 1 }) : Gp 8 p w b env q (pyHash (.int k t)) s Q := by
  have hv : [Value.int k t].any Value.onHeap = false := rfl
  have look : ∀ {s : Shared} {Q : Option Value → Shared → Prop}, Q (some (.builtin "int.__hash__")) s → Gp 0 p w b env q (specialOf (.int k t) (Str.ofString "__hash__")) s Q := fun h => by
    unfold specialOf
    exact gp_bind (c₁ := 0) (c₂ := 0) (gp_pure (gp_of_eq typeLookup_hash (gp_pure h)))
  show Gp 8 p w b env q (pyHashByItsType (.int k t)) s Q
  unfold pyHashByItsType
  refine gp_le (c := 5) ?_ (by decide)
  refine gp_bind (c₁ := 0) (c₂ := 5) ?_
  rw [cRoomFor, if_neg (by rw [hv]; exact Bool.false_ne_true)]
  refine gp_pure (gp_bind (c₁ := 0) (c₂ := 5) (look ?_))
  dsimp only
  rw [if_neg (by decide)]
  refine gp_bind (c₁ := 0) (c₂ := 5) (look ?_)
  rw [if_neg (by decide)]
  refine gp_bind (c₁ := 5) (c₂ := 0) ?_
  unfold callSpecialIfBoundUnlessNone? bindSpecialIfBound?
  refine gp_holding (gp_bind (c₁ := 1) (c₂ := 4) (gp_bind (c₁ := 0) (c₂ := 1) (look ?_)))
  simp only [slot_int_hash.bind]
  refine gp_bind (c₁ := 1) (c₂ := 0) (gp_ask ?_)
  have fin : Gp 4 p w b env q (call (.builtin "int.__hash__") [.int k t] []) s (fun v s' => v = .int k s.toks ∧ s' = { s with toks := s.toks + 1 }) := gp_hash_call ⟨by rw [small_hash h0 h1], rfl⟩
  have red : (decide (-(2 : Int) ^ 63 ≤ k) && decide (k < 2 ^ 63)) = true := by
    rw [decide_eq_true (by omega), decide_eq_true (by omega)]; rfl
  have last : Gp 4 p w b env q (call (.builtin "int.__hash__") [.int k t] [] >>= fun v => pure (some v)) s fun a s' => Gp 0 p w b env q (match a with
                | some (Value.int i tok) => pyHashByItsType.reduced i
                | some (Value.bool b) => pure (if b = true then 1 else 0)
                | some (Value.ref a) => do
                  let __do_lift ← load a
                  match __do_lift.data with
                    | Data.prim (Value.int i tok) => do
                      rule "hash.int-subclass"
                      let h ← pyHashByItsType.reduced i
                      point
                      pure h
                    | x => raiseErrorWords "TypeError" "__hash__ method should return an integer"
                | some r => do
                  notAStandIn r
                  raiseErrorWords "TypeError" "__hash__ method should return an integer"
                | none => do
                  let __do_lift ← PySem.typeNameOf (.int k t)
                  raiseErrorMade "TypeError" (toString "unhashable type: '" ++ toString __do_lift ++ toString "'")) s' Q := by
    refine gp_bind (c₁ := 4) (c₂ := 0) (gp_mono fin ?_)
    rintro v s' ⟨rfl, rfl⟩
    refine gp_pure ?_
    show Gp 0 p w b env q (pyHashByItsType.reduced k) _ Q
    unfold pyHashByItsType.reduced
    rw [if_pos red, if_neg (by simp; omega)]
    exact gp_pure h
  split
  · exact gp_bind (c₁ := 0) (c₂ := 0) (gp_pure (gp_pure last))
  · exact gp_bind (c₁ := 0) (c₂ := 0) (gp_pure (gp_pure last))

theorem gp_dictSet {h : Heap} {l r : List Obj} {es : List DictEntry} {d : Addr} {k : Int} {t : Tok} {v : Value} {s : Shared} {Q : Unit → Shared → Prop} (hd : 28 ≤ d) (hs : s.heap = Hp h (l ++ dObj es :: r)) (ha : d = h.objs.size + l.length)
    (h0 : 0 ≤ k) (h1 : k < 2000000) (hk : ∀ e ∈ es, e.hash ≠ k) (hz : es.length < 1000)
    (hq : Q () { s with heap := Hp h (l ++ dObj (es ++ [⟨k, .int k t, v⟩]) :: r), toks := s.toks + 1 }) : Gp 13 p w b env q (dictSet d (.int k t) v) s Q := by
  have ho : s.heap.get? d = some (dObj es) := by rw [hs]; exact hp_get ha
  have up : s.heap.update d (Obj.mapDictKeys fun a => a.push ⟨k, .int k t, v⟩) = Hp h (l ++ dObj (es ++ [⟨k, .int k t, v⟩]) :: r) := by
    rw [hs, hp_update ha]
    simp [dObj, Obj.mapDictKeys]
  unfold dictSet
  refine gp_holding (gp_bind (c₁ := 8) (c₂ := 5) (gp_pyHash h0 h1 ?_))
  unfold dictSetHashed
  refine gp_holding (gp_bind (c₁ := 1) (c₂ := 4) (gp_dictFind_none ho hk ?_))
  refine gp_bind (c₁ := 1) (c₂ := 3) (gp_rule ?_)
  refine gp_updateKeys hd ho ?_ hz ?_
  · show (s.heap.update d (Obj.mapDictKeys fun a => a.push ⟨k, .int k t, v⟩)).get? d = _
    rw [up]; exact hp_get ha
  · show Q () { s with heap := s.heap.update d (Obj.mapDictKeys fun a => a.push ⟨k, .int k t, v⟩), toks := s.toks + 1 }
    rw [up]; exact hq

theorem gp_dictPut {h : Heap} {l r : List Obj} {es : List DictEntry} {d : Addr} {k : Int} {t : Tok} {v : Value} {s : Shared} {Q : Unit → Shared → Prop} (hd : 28 ≤ d) (hs : s.heap = Hp h (l ++ dObj es :: r)) (ha : d = h.objs.size + l.length)
    (hk : ∀ e ∈ es, e.hash ≠ k) (hz : es.length < 1000)
    (hq : Q () { s with heap := Hp h (l ++ dObj (es ++ [⟨k, .int k t, v⟩]) :: r) }) : Gp 4 p w b env q (dictPut d k (.int k t) v) s Q := by
  have ho : s.heap.get? d = some (dObj es) := by rw [hs]; exact hp_get ha
  have up : s.heap.update d (Obj.mapDictKeys fun a => a.push ⟨k, .int k t, v⟩) = Hp h (l ++ dObj (es ++ [⟨k, .int k t, v⟩]) :: r) := by
    rw [hs, hp_update ha]
    simp [dObj, Obj.mapDictKeys]
  unfold dictPut
  refine gp_bind (c₁ := 1) (c₂ := 3) (gp_dictFind_none ho hk ?_)
  refine gp_updateKeys hd ho ?_ hz ?_
  · rw [up]; exact hp_get ha
  · rw [up]; exact hq

/-- the constants of the pairs -/
def pairS (pos : Pos) (x : Int × Str) : Sem Value × Sem Value := (mkInt x.1, do let y ← mkText x.2; standAt pos; pure y)
def ents (step : Nat) : Nat → List (Int × Str) → List DictEntry
  | _, [] => []
  | t, (i, s) :: r => ⟨i, .int i t, .str s (t + 1)⟩ :: ents step (t + step) r
def KeysOk (es : List DictEntry) (L : List (Int × Str)) : Prop := (∀ x ∈ L, 0 ≤ x.1 ∧ x.1 < 2000000 ∧ ∀ e ∈ es, e.hash ≠ x.1) ∧ (L.map (·.1)).Nodup
theorem KeysOk.tail {es : List DictEntry} {x : Int × Str} {L : List (Int × Str)} (h : KeysOk es (x :: L)) {e : DictEntry} (he : e.hash = x.1) : KeysOk (es ++ [e]) L := by
  obtain ⟨a, c⟩ := h
  rw [List.map_cons, List.nodup_cons] at c
  refine ⟨fun y hy => ⟨(a y (.tail _ hy)).1, (a y (.tail _ hy)).2.1, fun e' he' => ?_⟩, c.2⟩
  rcases List.mem_append.mp he' with q | q
  · exact (a y (.tail _ hy)).2.2 e' q
  · rw [List.mem_singleton.mp q, he]
    exact fun z => c.1 (z ▸ List.mem_map_of_mem hy)

theorem gp_mkInt {i : Int} {s : Shared} {Q : Value → Shared → Prop} (h : Q (.int i s.toks) { s with toks := s.toks + 1 }) : Gp 1 p w b env q (mkInt i) s Q := by
  unfold mkInt
  exact gp_bind (c₁ := 1) (c₂ := 0) (gp_fresh (gp_pure h))
theorem gp_mkText {x : Str} {s : Shared} {Q : Value → Shared → Prop} (h : Q (.str x s.toks) { s with toks := s.toks + 1 }) : Gp 1 p w b env q (mkText x) s Q := by
  unfold mkText
  exact gp_bind (c₁ := 1) (c₂ := 0) (gp_fresh (gp_pure h))

theorem gp_fill {pos : Pos} {h : Heap} {l r : List Obj} {d : Addr} (hd : 28 ≤ d) (ha : d = h.objs.size + l.length) : ∀ (L : List (Int × Str)) (es : List DictEntry) (s : Shared) (Q : PUnit → Shared → Prop),
    s.heap = Hp h (l ++ dObj es :: r) → KeysOk es L → es.length + L.length ≤ 1000 →
    Q ⟨⟩ { s with heap := Hp h (l ++ dObj (es ++ ents 3 s.toks L) :: r), toks := s.toks + 3 * L.length } →
    Gp (16 * L.length) p w b env q (forIn (L.map (pairS pos)) PUnit.unit fun (x : Sem Value × Sem Value) (_ : PUnit) => (do
      let kv ← x.1
      let vv ← holding [kv] x.2
      holding [kv, vv] (dictSet d kv vv)
      pure (ForInStep.yield PUnit.unit) : Sem (ForInStep PUnit))) s Q
  | [], es, s, Q, hs, _, _, hq => by
    rw [List.map_nil, List.forIn_nil]
    refine gp_pure ?_
    simp only [ents, List.append_nil, List.length_nil, Nat.mul_zero, Nat.add_zero] at hq
    rw [← hs] at hq
    exact hq
  | x :: L, es, s, Q, hs, hk, hz, hq => by
    rw [List.map_cons, List.forIn_cons]
    have hx := hk.1 x (.head _)
    refine gp_le (c := 16 + 16 * L.length) ?_ (by rw [List.length_cons, Nat.mul_add]; omega)
    refine gp_bind (c₁ := 16) (gp_bind (c₁ := 1) (c₂ := 15) (gp_mkInt (gp_bind (c₁ := 2) (c₂ := 13) (gp_holding (gp_bind (c₁ := 1) (c₂ := 1) (gp_mkText (gp_bind (c₁ := 1) (c₂ := 0) (gp_at (gp_pure ?_)))))))))
    refine gp_bind (c₁ := 13) (c₂ := 0) (gp_holding (gp_dictSet hd (l := l) (r := r) (es := es) hs ha hx.1 hx.2.1 hx.2.2 (by simp at hz; omega) (gp_pure ?_)))
    dsimp only
    refine gp_fill hd ha L (es ++ [⟨x.1, .int x.1 s.toks, .str x.2 (s.toks + 1)⟩]) _ Q rfl (hk.tail rfl) (by simp at hz ⊢; omega) ?_
    dsimp only
    rw [List.append_assoc]
    have e : s.toks + 1 + 1 + 1 + 3 * L.length = s.toks + 3 * (x :: L).length := by rw [List.length_cons]; omega
    rw [e]
    exact hq
end
end Mine
end
section
open PySem PySem.W PyProof.Rows
set_option maxRecDepth 100000
namespace Mine
section
variable {p : Program} {w : World} {b : List Stmt} {env : Env} {q : Pos} {α β : Type}

theorem gp_subLong {pos : Pos} {h : Heap} {os : List Obj} {L : List (Int × Str)} {s : Shared} {Q : Addr → Shared → Prop} (hd : 28 ≤ h.objs.size) (hs : s.heap = Hp h os) (hl : 15 < L.length) (hk : KeysOk [] L) (hz : L.length ≤ 1000)
    (hq : Q (h.objs.size + os.length) { s with heap := Hp h (os ++ [dObj (ents 3 s.toks L)]), toks := s.toks + 3 * L.length }) : Gp (20 + 16 * L.length) p w b env q (subDict (L.map (pairS pos))) s Q := by
  unfold subDict
  refine gp_le (c := 1 + (1 + 16 * L.length)) ?_ (by omega)
  refine gp_bind (gp_alloc ?_)
  have e : (s.heap.push { cls := .type "dict", data := .dict #[] }) = Hp h (os ++ dObj [] :: []) := by rw [hs, hp_push]; rfl
  have ez : s.heap.objs.size = h.objs.size + os.length := by rw [hs, hp_size]
  rw [e, ez]
  refine gp_bind (c₁ := 1 + 16 * L.length) (c₂ := 0) (gp_holding ?_)
  rw [if_neg (by rw [List.length_map]; omega)]
  refine gp_bind (c₁ := 1) (c₂ := 16 * L.length) (gp_rule (gp_bind (c₁ := 16 * L.length) (c₂ := 0) ?_))
  refine gp_fill (Nat.le_trans hd (Nat.le_add_right _ _)) (l := os) (r := []) rfl L [] _ _ rfl hk (by simp; omega) ?_
  exact gp_pure (gp_pure hq)

theorem gp_evalPairs {pos : Pos} : ∀ (L : List (Int × Str)) (s : Shared) (Q : List (Value × Value) → Shared → Prop),
    Q ((L.zipIdx).map fun x => (Value.int x.1.1 (s.toks + 2 * x.2), Value.str x.1.2 (s.toks + 2 * x.2 + 1))) { s with toks := s.toks + 2 * L.length } → Gp (3 * L.length) p w b env q (evalPairs (L.map (pairS pos))) s Q := by
  intro L
  suffices H : ∀ (L : List (Int × Str)) (n : Nat) (s : Shared) (Q : List (Value × Value) → Shared → Prop),
      Q ((L.zipIdx n).map fun x => (Value.int x.1.1 (s.toks + 2 * (x.2 - n)), Value.str x.1.2 (s.toks + 2 * (x.2 - n) + 1))) { s with toks := s.toks + 2 * L.length } → Gp (3 * L.length) p w b env q (evalPairs (L.map (pairS pos))) s Q by
    intro s Q h
    exact H L 0 s Q h
  intro L
  induction L with
  | nil => intro n s Q h; exact gp_pure h
  | cons x L ih =>
    intro n s Q h
    rw [List.map_cons, evalPairs]
    refine gp_le (c := 1 + (2 + 3 * L.length)) ?_ (by rw [List.length_cons, Nat.mul_add]; omega)
    refine gp_bind (gp_mkInt (gp_bind (gp_holding (gp_bind (c₁ := 1) (c₂ := 1) (gp_mkText (gp_bind (c₁ := 1) (c₂ := 0) (gp_at (gp_pure ?_))))))))
    refine gp_bind (c₁ := 3 * L.length) (c₂ := 0) (gp_holding (ih (n + 1) _ _ (gp_pure ?_)))
    dsimp only
    rw [List.zipIdx_cons, List.map_cons] at h
    have e1 : s.toks + 1 + 1 + 2 * L.length = s.toks + 2 * (x :: L).length := by rw [List.length_cons]; omega
    rw [e1]
    have e2 : (List.map (fun y : (Int × Str) × Nat => (Value.int y.1.1 (s.toks + 1 + 1 + 2 * (y.2 - (n + 1))), Value.str y.1.2 (s.toks + 1 + 1 + 2 * (y.2 - (n + 1)) + 1))) (L.zipIdx (n + 1))) =
        List.map (fun y : (Int × Str) × Nat => (Value.int y.1.1 (s.toks + 2 * (y.2 - n)), Value.str y.1.2 (s.toks + 2 * (y.2 - n) + 1))) (L.zipIdx (n + 1)) := by
      refine List.map_congr_left fun y hy => ?_
      have := List.mem_zipIdx hy
      have e : s.toks + 1 + 1 + 2 * (y.2 - (n + 1)) = s.toks + 2 * (y.2 - n) := by omega
      rw [e]
    rw [e2]
    simpa using h

theorem gp_store {h : Heap} {l r : List Obj} {d : Addr} (hd : 28 ≤ d) (ha : d = h.objs.size + l.length) (t₀ : Nat) : ∀ (L : List (Int × Str)) (n : Nat) (es : List DictEntry) (s : Shared) (Q : PUnit → Shared → Prop),
    s.heap = Hp h (l ++ dObj es :: r) → KeysOk es L → es.length + L.length ≤ 1000 →
    Q ⟨⟩ { s with heap := Hp h (l ++ dObj (es ++ ents 2 (t₀ + 2 * n) L) :: r), toks := s.toks + L.length } →
    Gp (13 * L.length) p w b env q (forIn ((L.zipIdx n).map fun x => (Value.int x.1.1 (t₀ + 2 * x.2), Value.str x.1.2 (t₀ + 2 * x.2 + 1))) PUnit.unit fun (x : Value × Value) (_ : PUnit) => (do dictSet d x.1 x.2; pure (ForInStep.yield PUnit.unit) : Sem (ForInStep PUnit))) s Q
  | [], n, es, s, Q, hs, _, _, hq => by
    rw [List.zipIdx_nil, List.map_nil, List.forIn_nil]
    refine gp_pure ?_
    simp only [ents, List.append_nil, List.length_nil, Nat.add_zero] at hq
    rw [← hs] at hq
    exact hq
  | x :: L, n, es, s, Q, hs, hk, hz, hq => by
    rw [List.zipIdx_cons, List.map_cons, List.forIn_cons]
    have hx := hk.1 x (.head _)
    refine gp_le (c := 13 + 13 * L.length) ?_ (by rw [List.length_cons, Nat.mul_add]; omega)
    refine gp_bind (c₁ := 13) (gp_bind (c₁ := 13) (c₂ := 0) (gp_dictSet hd (l := l) (r := r) (es := es) hs ha hx.1 hx.2.1 hx.2.2 (by simp at hz; omega) (gp_pure ?_)))
    dsimp only
    refine gp_store hd ha t₀ L (n + 1) (es ++ [⟨x.1, .int x.1 (t₀ + 2 * n), .str x.2 (t₀ + 2 * n + 1)⟩]) _ Q rfl (hk.tail rfl) (by simp at hz ⊢; omega) ?_
    dsimp only
    rw [List.append_assoc]
    have e : s.toks + 1 + L.length = s.toks + (x :: L).length := by rw [List.length_cons]; omega
    have e2 : t₀ + 2 * (n + 1) = t₀ + 2 * n + 2 := by omega
    rw [e, e2]
    exact hq

theorem gp_subShort {pos : Pos} {h : Heap} {os : List Obj} {L : List (Int × Str)} {s : Shared} {Q : Addr → Shared → Prop} (hd : 28 ≤ h.objs.size) (hs : s.heap = Hp h os) (hl : L.length ≤ 15) (hk : KeysOk [] L)
    (hq : Q (h.objs.size + os.length) { s with heap := Hp h (os ++ [dObj (ents 2 s.toks L)]), toks := s.toks + 3 * L.length }) : Gp (20 + 16 * L.length) p w b env q (subDict (L.map (pairS pos))) s Q := by
  unfold subDict
  refine gp_le (c := 1 + (1 + 16 * L.length)) ?_ (by omega)
  refine gp_bind (gp_alloc ?_)
  have e : (s.heap.push { cls := .type "dict", data := .dict #[] }) = Hp h (os ++ dObj [] :: []) := by rw [hs, hp_push]; rfl
  have ez : s.heap.objs.size = h.objs.size + os.length := by rw [hs, hp_size]
  rw [e, ez]
  refine gp_bind (c₁ := 1 + 16 * L.length) (c₂ := 0) (gp_holding ?_)
  rw [if_pos (by rw [List.length_map]; exact hl)]
  refine gp_le (c := 3 * L.length + 13 * L.length) ?_ (by omega)
  refine gp_bind (gp_evalPairs L _ _ (gp_holding (gp_bind (c₁ := 13 * L.length) (c₂ := 0) ?_)))
  refine gp_store (Nat.le_trans hd (Nat.le_add_right _ _)) (l := os) (r := []) rfl s.toks L 0 [] _ _ rfl hk (by simp; omega) ?_
  dsimp only
  refine gp_pure (gp_pure ?_)
  have e3 : s.toks + 2 * L.length + L.length = s.toks + 3 * L.length := by omega
  rw [e3]
  exact hq

theorem ents_get (step : Nat) : ∀ (L : List (Int × Str)) (t i : Nat) (hi : i < (ents step t L).length), ∃ k u v, (ents step t L)[i]? = some ⟨k, .int k u, v⟩ ∧ (L.map (·.1))[i]? = some k
  | [], _, _, hi => absurd hi (Nat.not_lt_zero _)
  | x :: L, t, 0, _ => ⟨x.1, t, .str x.2 (t + 1), rfl, rfl⟩
  | x :: L, t, i + 1, hi => by
    obtain ⟨k, u, v, a, c⟩ := ents_get step L (t + step) i (Nat.lt_of_succ_lt_succ hi)
    exact ⟨k, u, v, a, c⟩
theorem ents_length (step : Nat) : ∀ (L : List (Int × Str)) (t : Nat), (ents step t L).length = L.length
  | [], _ => rfl
  | x :: L, t => by show (ents step (t + step) L).length + 1 = _; rw [ents_length step L]; rfl
theorem ents_hash (step : Nat) : ∀ (L : List (Int × Str)) (t : Nat) (e : DictEntry), e ∈ ents step t L → e.hash ∈ L.map (·.1)
  | [], _, _, he => nomatch he
  | x :: L, t, e, he => by
    rcases List.mem_cons.mp he with rfl | he
    · exact List.mem_cons_self
    · exact List.mem_cons_of_mem _ (ents_hash step L _ e he)

theorem typeLookup_iter : typeLookup (.type "dict") (Str.ofString "__iter__") = pure (some (.builtin "dict.__iter__")) := F.slot_dict_iter.lookup

/-- the entries of the dict at the list's end go over into the one at its head -/
theorem gp_merge {h : Heap} {mid : List Obj} {es : List DictEntry} {step t : Nat} {L : List (Int × Str)} {d a : Addr} {s : Shared} {Q : Unit → Shared → Prop} (hd : 28 ≤ d) (hda : d = h.objs.size) (haa : a = h.objs.size + (mid.length + 1))
    (hs : s.heap = Hp h (dObj es :: mid ++ dObj (ents step t L) :: [])) (hk : KeysOk es L) (hz : es.length + L.length ≤ 1000) (he : es ≠ [])
    (hq : Q () { s with heap := Hp h (dObj (es ++ ents step t L) :: mid ++ dObj (ents step t L) :: []) }) : Gp (20 + 8 * L.length) p w b env q (mergeMapping d (.ref a) false) s Q := by
  obtain ⟨heap, gens, drawn, toks, os⟩ := s
  dsimp only at hs hq
  subst hs
  have oa : ∀ es', (Hp h (dObj es' :: mid ++ dObj (ents step t L) :: [])).get? a = some (dObj (ents step t L)) := fun es' => hp_get (l := dObj es' :: mid) (by rw [haa]; rfl)
  have od : ∀ es', (Hp h (dObj es' :: mid ++ dObj (ents step t L) :: [])).get? d = some (dObj es') := fun es' => hp_get (l := []) (r := mid ++ dObj (ents step t L) :: []) (by rw [hda]; rfl)
  unfold mergeMapping isInstance specialOf
  refine gp_le (c := 1 + (1 + (0 + (1 + (1 + (1 + 8 * (ents step t L).length)))))) ?_ (by rw [ents_length]; omega)
  refine gp_bind (c₁ := 1) (gp_bind (c₁ := 1) (c₂ := 0) (gp_typeOf_ref (oa es) (gp_of_eq isSubtype_dict_dict (gp_pure ?_))))
  rw [if_pos rfl]
  refine gp_bind (c₁ := 1) (gp_bind (c₁ := 1) (c₂ := 0) (gp_typeOf_ref (oa es) (gp_of_eq typeLookup_iter (gp_pure ?_))))
  refine gp_bind (c₁ := 0) (gp_pure ?_)
  rw [show (some (Value.builtin "dict.__iter__") == some (Value.builtin "dict.__iter__")) = true by decide]
  dsimp only
  have hsys : (a == sysModules) = false := by
    rw [haa]; simp only [beq_eq_false_iff_ne]; show h.objs.size + (mid.length + 1) ≠ 1
    have hd' : (28 : Nat) ≤ h.objs.size := hda ▸ hd
    omega
  rw [hsys]
  simp only [Bool.false_eq_true, if_false]
  refine gp_bind (gp_dictEntries (od es) ?_)
  have hne : (Array.mk es).isEmpty = false := by
    cases es with
    | nil => exact absurd rfl he
    | cons x l => rfl
  rw [hne]
  simp only [Bool.false_eq_true, if_false]
  refine gp_bind (gp_dictEntries (oa es) (gp_bind (gp_dictEpoch (oa es) (gp_bind (c₁ := 8 * (ents step t L).length) (c₂ := 0) ?_))))
  have hsz : (Array.mk (ents step t L)).size = (ents step t L).length := rfl
  rw [hsz]
  refine gp_le (c := 8 * (List.range (ents step t L).length).length) ?_ (by rw [List.length_range]; exact Nat.le_refl _)
  refine gp_for (fun rest s' => ∃ n, rest = List.range' n ((ents step t L).length - n) ∧ n ≤ (ents step t L).length ∧ s' = ⟨Hp h (dObj (es ++ (ents step t L).take n) :: mid ++ dObj (ents step t L) :: []), gens, drawn, toks, os⟩) ?_ _ _ ⟨0, by rw [List.range_eq_range', Nat.sub_zero], Nat.zero_le _, by simp⟩ ?_
  · rintro i rest s' ⟨n, hr, hn, rfl⟩
    have hlt : n < (ents step t L).length := by
      cases Nat.lt_or_ge n (ents step t L).length with
      | inl x => exact x
      | inr x => rw [show (ents step t L).length - n = 0 by omega] at hr; cases hr
    rw [show (ents step t L).length - n = ((ents step t L).length - (n + 1)) + 1 by omega, List.range'_succ] at hr
    obtain ⟨rfl, rfl⟩ := List.cons.inj hr
    obtain ⟨k, u, v, hi, hki⟩ := ents_get step L t i hlt
    refine gp_le (c := 1 + (4 + (1 + 0))) ?_ (by decide)
    refine gp_bind (gp_dictEntries (oa _) ?_)
    have : (Array.mk (ents step t L))[i]? = some ⟨k, .int k u, v⟩ := by simpa using hi
    rw [this]
    dsimp only
    have hkm : k ∈ L.map (·.1) := List.mem_of_getElem? hki
    obtain ⟨x, hx, hxk⟩ := List.mem_map.mp hkm
    have fresh : ∀ e ∈ es ++ (ents step t L).take i, e.hash ≠ k := by
      intro e hee
      rcases List.mem_append.mp hee with z | z
      · rw [← hxk]; exact (hk.1 x hx).2.2 e z
      · obtain ⟨j, hj, rfl⟩ := List.getElem_of_mem z
        rw [List.length_take] at hj
        have hj' : j < (ents step t L).length := by omega
        obtain ⟨k', u', v', hj1, hj2⟩ := ents_get step L t j hj'
        have e1 : ((ents step t L).take i)[j]'(by rw [List.length_take]; exact hj) = ⟨k', .int k' u', v'⟩ := by
          rw [List.getElem_take]
          rw [List.getElem?_eq_getElem hj'] at hj1
          exact Option.some.inj hj1
        rw [e1]
        show k' ≠ k
        rintro rfl
        have hnd := hk.2
        have a1 := List.getElem?_eq_some_iff.mp hj2
        have a2 := List.getElem?_eq_some_iff.mp hki
        obtain ⟨b1, c1⟩ := a1
        obtain ⟨b2, c2⟩ := a2
        exact (List.pairwise_iff_getElem.mp hnd) j i b1 b2 (by omega) (c1.trans c2.symm)
    have take1 : (ents step t L).take (i + 1) = (ents step t L).take i ++ [⟨k, .int k u, v⟩] := by rw [List.take_add_one, hi]; rfl
    refine gp_bind (c₁ := 4) (gp_holding (gp_dictPut hd (l := []) (r := mid ++ dObj (ents step t L) :: []) (es := es ++ (ents step t L).take i) rfl (by rw [hda]; rfl) fresh (by rw [List.length_append, List.length_take]; rw [ents_length] at *; omega) ?_))
    have eq1 : es ++ (ents step t L).take i ++ [⟨k, .int k u, v⟩] = es ++ (ents step t L).take (i + 1) := by rw [take1, List.append_assoc]
    rw [eq1]
    refine gp_bind (gp_dictEpoch (oa _) ?_)
    rw [if_neg (by simp)]
    exact gp_pure ⟨rfl, i + 1, rfl, by omega, rfl⟩
  · rintro s' ⟨n, hr, hn, rfl⟩
    have : n = (ents step t L).length := by
      have := congrArg List.length hr
      rw [List.length_range', List.length_nil] at this
      omega
    rw [this, List.take_length]
    exact gp_pure hq
end
end Mine
end
section
open PySem PySem.W PyProof.Rows
set_option maxRecDepth 100000
namespace Mine
section
variable {p : Program} {w : World} {b : List Stmt} {env : Env} {q : Pos} {α β : Type}

def flushS (run : List (Sem Value × Sem Value)) (m : Option Addr) : Sem (Option Addr) :=
  if run.isEmpty = true then pure m else match m with
  | none => do
    let d ← subDict run
    pure (some d)
  | some d => do
    let sub ← holding [Value.ref d] (subDict run)
    (holding [Value.ref d, Value.ref sub] (mergeMapping d (Value.ref sub) false)).onRaise fun x => do
      let _ ← holding [Value.ref d, x] (runValue (Code.builtin "proto.let_go" { }))
      pure ()
    pure (some d)
abbrev GSt := Option Addr × List (Sem Value × Sem Value)
abbrev GIt := Option (Sem Value) × Sem Value
def itemS (x : Sem Value × Sem Value) : GIt := (some x.1, x.2)
structure Gathers (f : GIt → GSt → Sem (ForInStep GSt)) : Prop where
  less : ∀ x m run, run.length + 1 < 17 → f (itemS x) (m, run) = pure (.yield (m, run ++ [x]))
  full : ∀ x m run, run.length + 1 = 17 → f (itemS x) (m, run) = flushS (run ++ [x]) m >>= fun m' => pure (.yield (m', []))
theorem gather_less {f : GIt → GSt → Sem (ForInStep GSt)} (hf : Gathers f) {m : Option Addr} {rest : List GIt} : ∀ (l run : List (Sem Value × Sem Value)), run.length + l.length < 17 →
    forIn (l.map itemS ++ rest) (m, run) f = forIn rest (m, run ++ l) f
  | [], run, _ => by simp
  | x :: l, run, h => by
    rw [List.map_cons, List.cons_append, List.forIn_cons, hf.less x m run (by simp at h; omega), pure_bind]
    have := gather_less hf (m := m) (rest := rest) l (run ++ [x]) (by simp at h ⊢; omega)
    simpa using this
theorem gather_full {f : GIt → GSt → Sem (ForInStep GSt)} (hf : Gathers f) {m : Option Addr} {rest : List GIt} {l : List (Sem Value × Sem Value)} (h : l.length = 17) :
    forIn (l.map itemS ++ rest) (m, []) f = flushS l m >>= fun m' => forIn rest (m', []) f := by
  have hne : l ≠ [] := by intro e; rw [e] at h; cases h
  obtain ⟨l₀, x, rfl⟩ : ∃ l₀ x, l = l₀ ++ [x] := ⟨l.dropLast, l.getLast hne, (List.dropLast_concat_getLast hne).symm⟩
  have hl : l₀.length = 16 := by simpa using h
  rw [List.map_append, List.append_assoc, gather_less hf l₀ [] (by simp [hl]), List.nil_append]
  show forIn (itemS x :: rest) (m, l₀) f = _
  rw [List.forIn_cons, hf.full x m l₀ (by omega), bind_assoc]
  simp only [pure_bind]

theorem gp_flush0 {pos : Pos} {h : Heap} {L : List (Int × Str)} {s : Shared} {Q : Option Addr → Shared → Prop} (hd : 28 ≤ h.objs.size) (hs : s.heap = h) (hl : L.length = 17) (hk : KeysOk [] L)
    (hq : Q (some h.objs.size) { s with heap := Hp h [dObj (ents 3 s.toks L)], toks := s.toks + 3 * L.length }) : Gp (20 + 16 * L.length) p w b env q (flushS (L.map (pairS pos)) none) s Q := by
  unfold flushS
  rw [if_neg (by cases L with | nil => cases hl | cons x l => simp)]
  have hh : s.heap = Hp h [] := by rw [hs]; simp [Hp]
  refine gp_bind (c₁ := 20 + 16 * L.length) (c₂ := 0) (gp_subLong hd hh (by omega) hk (by omega) (gp_pure ?_))
  exact hq

theorem gp_flush {pos : Pos} {h : Heap} {es : List DictEntry} {mid : List Obj} {L : List (Int × Str)} {s : Shared} {Q : Option Addr → Shared → Prop} (step : Nat) (hst : if step = 3 then 15 < L.length else L.length ≤ 15 ∧ step = 2) (hd : 28 ≤ h.objs.size) (hs : s.heap = Hp h (dObj es :: mid)) (hL : L ≠ []) (hk : KeysOk es L)
    (he : es ≠ []) (hz : es.length + L.length ≤ 1000) (hq : Q (some h.objs.size) { s with heap := Hp h (dObj (es ++ ents step s.toks L) :: mid ++ [dObj (ents step s.toks L)]), toks := s.toks + 3 * L.length }) : Gp (40 + 24 * L.length) p w b env q (flushS (L.map (pairS pos)) (some h.objs.size)) s Q := by
  unfold flushS
  rw [if_neg (by cases L with | nil => exact absurd rfl hL | cons x l => simp)]
  have hk0 : KeysOk [] L := ⟨fun x hx => ⟨(hk.1 x hx).1, (hk.1 x hx).2.1, fun e he => nomatch he⟩, hk.2⟩
  have fin : Gp (20 + 8 * L.length) p w b env q ((holding [Value.ref h.objs.size, Value.ref (h.objs.size + (dObj es :: mid).length)] (mergeMapping h.objs.size (Value.ref (h.objs.size + (dObj es :: mid).length)) false)).onRaise fun x => (do
      let _ ← holding [Value.ref h.objs.size, x] (runValue (Code.builtin "proto.let_go" { }))
      pure () : Sem Unit)) { s with heap := Hp h (dObj es :: mid ++ [dObj (ents step s.toks L)]), toks := s.toks + 3 * L.length }
      (fun _ s' => s' = { s with heap := Hp h (dObj (es ++ ents step s.toks L) :: mid ++ [dObj (ents step s.toks L)]), toks := s.toks + 3 * L.length }) :=
    gp_onRaise (gp_holding (gp_merge hd rfl rfl rfl hk hz he rfl))
  refine gp_le (c := (20 + 16 * L.length) + ((20 + 8 * L.length) + 0)) ?_ (by omega)
  refine gp_bind (gp_holding ?_)
  have go : Gp (20 + 16 * L.length) p w b env q (subDict (L.map (pairS pos))) s (fun a s' => a = h.objs.size + (dObj es :: mid).length ∧ s' = { s with heap := Hp h (dObj es :: mid ++ [dObj (ents step s.toks L)]), toks := s.toks + 3 * L.length }) := by
    by_cases e : step = 3
    · subst e
      rw [if_pos rfl] at hst
      exact gp_subLong hd hs hst hk0 (by omega) ⟨rfl, rfl⟩
    · rw [if_neg e] at hst
      obtain ⟨h1, rfl⟩ := hst
      exact gp_subShort hd hs h1 hk0 ⟨rfl, rfl⟩
  refine gp_mono go ?_
  rintro a s' ⟨rfl, rfl⟩
  refine gp_bind (gp_mono fin ?_)
  rintro _ s' rfl
  exact gp_pure hq

def chunkObjs : Nat → List (List (Int × Str)) → List Obj
  | _, [] => []
  | t, c :: cs => dObj (ents 3 t c) :: chunkObjs (t + 3 * c.length) cs
theorem ents_append (step : Nat) : ∀ (a c : List (Int × Str)) (t : Nat), ents step t (a ++ c) = ents step t a ++ ents step (t + step * a.length) c
  | [], c, t => by simp [ents]
  | x :: a, c, t => by
    show _ :: ents step (t + step) (a ++ c) = _ :: (ents step (t + step) a ++ _)
    rw [ents_append step a c (t + step), List.length_cons, Nat.mul_add, Nat.mul_one]
    congr 3; omega
theorem KeysOk.split {es : List DictEntry} {a c : List (Int × Str)} (h : KeysOk es (a ++ c)) (step t : Nat) : KeysOk es a ∧ KeysOk (es ++ ents step t a) c := by
  obtain ⟨h1, h2⟩ := h
  rw [List.map_append, List.nodup_append] at h2
  refine ⟨⟨fun x hx => h1 x (List.mem_append_left _ hx), h2.1⟩, fun x hx => ⟨(h1 x (List.mem_append_right _ hx)).1, (h1 x (List.mem_append_right _ hx)).2.1, fun e he => ?_⟩, h2.2.1⟩
  rcases List.mem_append.mp he with z | z
  · exact (h1 x (List.mem_append_right _ hx)).2.2 e z
  · exact fun y => h2.2.2 _ (ents_hash step a t e z) _ (List.mem_map_of_mem hx) y

theorem gp_chunks {pos : Pos} {h : Heap} {f : GIt → GSt → Sem (ForInStep GSt)} (hf : Gathers f) (hd : 28 ≤ h.objs.size) (last : List (Int × Str)) (hlast : last.length < 17) :
    ∀ (cs : List (List (Int × Str))) (es : List DictEntry) (mid : List Obj) (s : Shared) (Q : GSt → Shared → Prop), (∀ c ∈ cs, c.length = 17) → s.heap = Hp h (dObj es :: mid) → es ≠ [] → KeysOk es (cs.flatten ++ last) → es.length + cs.flatten.length ≤ 1000 →
      Q (some h.objs.size, last.map (pairS pos)) { s with heap := Hp h (dObj (es ++ ents 3 s.toks cs.flatten) :: (mid ++ chunkObjs s.toks cs)), toks := s.toks + 3 * cs.flatten.length } →
      Gp (1000 * cs.length) p w b env q (forIn (((cs.flatten ++ last).map (pairS pos)).map itemS) ((some h.objs.size, []) : GSt) f) s Q
  | [], es, mid, s, Q, _, hs, _, _, _, hq => by
    have := gather_less hf (m := some h.objs.size) (rest := []) (last.map (pairS pos)) [] (by simpa using hlast)
    simp only [List.append_nil, List.nil_append, List.forIn_nil] at this
    rw [List.flatten_nil, List.nil_append, this]
    refine gp_pure ?_
    simp only [List.flatten_nil, ents, List.append_nil, chunkObjs, List.length_nil, Nat.mul_zero, Nat.add_zero] at hq
    rw [← hs] at hq
    exact hq
  | c :: cs, es, mid, s, Q, hc, hs, he, hk, hz, hq => by
    have hcl := hc c (.head _)
    rw [List.flatten_cons, List.append_assoc] at hk
    obtain ⟨k1, k2⟩ := hk.split 3 s.toks
    rw [List.flatten_cons, List.append_assoc, List.map_append, List.map_append, gather_full hf (by rw [List.length_map, hcl])]
    have hz' : es.length + (c.length + cs.flatten.length) ≤ 1000 := by simpa using hz
    refine gp_le (c := (40 + 24 * c.length) + 1000 * cs.length) ?_ (by rw [List.length_cons, hcl]; omega)
    refine gp_bind (gp_flush 3 (by rw [if_pos rfl]; omega) hd hs (by intro e; rw [e] at hcl; cases hcl) k1 he (by omega) ?_)
    refine gp_chunks hf hd last hlast cs (es ++ ents 3 s.toks c) (mid ++ [dObj (ents 3 s.toks c)]) _ Q (fun x hx => hc x (.tail _ hx)) rfl (by simp [he]) k2 (by rw [List.length_append, ents_length]; omega) ?_
    dsimp only
    have e1 : es ++ ents 3 s.toks c ++ ents 3 (s.toks + 3 * c.length) cs.flatten = es ++ ents 3 s.toks (c :: cs).flatten := by
      rw [List.flatten_cons, ents_append, List.append_assoc]
    have e2 : mid ++ [dObj (ents 3 s.toks c)] ++ chunkObjs (s.toks + 3 * c.length) cs = mid ++ chunkObjs s.toks (c :: cs) := by
      rw [List.append_assoc]; rfl
    have e3 : s.toks + 3 * c.length + 3 * cs.flatten.length = s.toks + 3 * (c :: cs).flatten.length := by
      rw [List.flatten_cons, List.length_append]; omega
    rw [e1, e2, e3]
    exact hq

theorem gp_display {pos : Pos} {h : Heap} {s : Shared} {Q : Value → Shared → Prop} (c₀ : List (Int × Str)) (cs : List (List (Int × Str))) (last : List (Int × Str)) (hd : 28 ≤ h.objs.size) (hs : s.heap = h) (h₀ : c₀.length = 17) (hcs : ∀ c ∈ cs, c.length = 17) (hl : last.length ≤ 15) (hl0 : last ≠ [])
    (hk : KeysOk [] (c₀ ++ (cs.flatten ++ last))) (hz : c₀.length + cs.flatten.length + last.length ≤ 1000)
    (hq : Q (.ref h.objs.size) { s with heap := Hp h (dObj (ents 3 s.toks c₀ ++ ents 3 (s.toks + 3 * c₀.length) cs.flatten ++ ents 2 (s.toks + 3 * c₀.length + 3 * cs.flatten.length) last) :: chunkObjs (s.toks + 3 * c₀.length) cs ++ [dObj (ents 2 (s.toks + 3 * c₀.length + 3 * cs.flatten.length) last)]),
                                              toks := s.toks + 3 * c₀.length + 3 * cs.flatten.length + 3 * last.length }) :
    Gp (1000 * cs.length + 2000) p w b env q (dictDisplay (((c₀ ++ (cs.flatten ++ last)).map (pairS pos)).map itemS)) s Q := by
  obtain ⟨k0, k1⟩ := hk.split 3 s.toks
  rw [List.nil_append] at k1
  obtain ⟨k2, k3⟩ := k1.split 3 (s.toks + 3 * c₀.length)
  unfold dictDisplay
  dsimp only
  refine gp_le (c := ((20 + 16 * c₀.length) + 1000 * cs.length) + ((40 + 24 * last.length) + 0)) ?_ (by omega)
  refine gp_bind ?_
  rw [List.map_append, List.map_append]
  rw [gather_full ⟨fun x m run hr => ?_, fun x m run hr => ?_⟩ (by rw [List.length_map, h₀])]
  rotate_left
  · have hne : ((run ++ [x]).length == 17) = false := by simp; omega
    simp only [itemS, hne, Bool.false_eq_true, if_false]
  · have hne : ((run ++ [x]).length == 17) = true := by simp; omega
    simp only [itemS, hne, if_true]
    rfl
  refine gp_bind (gp_flush0 hd hs h₀ k0 ?_)
  refine gp_chunks ⟨fun x m run hr => ?_, fun x m run hr => ?_⟩ hd last (by omega) cs (ents 3 s.toks c₀) [] _ _ hcs rfl (by cases c₀ with | nil => cases h₀ | cons x l => simp [ents]) k1 (by rw [ents_length]; omega) ?_
  · have hne : ((run ++ [x]).length == 17) = false := by simp; omega
    simp only [itemS, hne, Bool.false_eq_true, if_false]
  · have hne : ((run ++ [x]).length == 17) = true := by simp; omega
    simp only [itemS, hne, if_true]
    rfl
  dsimp only
  refine gp_bind (gp_mono (gp_flush (pos := pos) 2 (by rw [if_neg (by decide)]; exact ⟨hl, rfl⟩) hd rfl hl0 k3 (by cases c₀ with | nil => cases h₀ | cons x l => simp [ents]) (by rw [List.length_append, ents_length, ents_length]; omega) (Q := fun a s' => a = some h.objs.size ∧ s' = _) ⟨rfl, rfl⟩) ?_)
  rintro a s' ⟨rfl, rfl⟩
  exact gp_pure hq
end
end Mine
end
section
open PySem PySem.W PyProof.Rows
set_option maxRecDepth 100000
namespace Mine
def vs (l : List Nat) (t : Nat) : Value := .str ⟨⟨l⟩⟩ t
def de (P : Params) (k : List Nat) (t : Nat) (v : Value) : DictEntry := ⟨PyData.keyHash P ⟨⟨k⟩⟩, .str ⟨⟨k⟩⟩ t, v⟩
def stAt (q : Program) (i : Nat) : Stmt := q.main.body.getD i (.Pass default)
def fBody : Stmt → List Stmt
  | .FunctionDef _ _ b _ _ _ _ _ _ _ => b
  | _ => []
def fArgs : Stmt → Arguments
  | .FunctionDef _ a _ _ _ _ _ _ _ _ => a
  | _ => default
def fScope : Stmt → Scope
  | .FunctionDef _ _ _ _ _ _ s _ _ _ => s
  | _ => default
def clsFn : Stmt → Stmt
  | .ClassDef _ _ _ b _ _ _ _ _ _ _ => b.headD (.Pass default)
  | s => s
def rawPairs : List (Option Expr) → List Expr → List (Int × Str)
  | some (.Constant (.int i) _ _) :: ks, .Constant (.str s) _ _ :: vs => (i, s) :: rawPairs ks vs
  | _, _ => []
def tabOf : Stmt → List (Int × Str)
  | .Assign _ (.Dict ks vs _) _ => rawPairs ks vs
  | _ => []
def tab (q : Program) : List (Int × Str) := tabOf (stAt q 11)
def entsOf (q : Program) (i n : Nat) : List DictEntry := ents 3 (450 + 3 * i) (((tab q).drop i).take n)
def entsLast (q : Program) : List DictEntry := ents 2 2388 ((tab q).drop 646)
def entsAll (q : Program) : List DictEntry := entsOf q 0 646 ++ entsLast q

noncomputable def o0v0 (q : Program) (P : Params) : Obj := { cls := (.type "dict"), dict := none, data := .dict ⟨[de P [95,95,110,97,109,101,95,95] 1 (vs [98,117,105,108,116,105,110,115] 160), de P [95,95,100,111,99,95,95] 2 (.builtin "builtins.__doc__:str#opaque"), de P [95,95,112,97,99,107,97,103,101,95,95] 3 (.builtin "builtins.__package__:str#opaque"), de P [95,95,108,111,97,100,101,114,95,95] 4 (.builtin "builtins.__loader__:shared#opaque"), de P [95,95,115,112,101,99,95,95] 5 (.builtin "builtins.__spec__#opaque"), de P [95,95,98,117,105,108,100,95,99,108,97,115,115,95,95] 6 (.builtin "__build_class__"), de P [95,95,105,109,112,111,114,116,95,95] 7 (.builtin "__import__"), de P [97,98,115] 8 (.builtin "abs"), de P [97,108,108] 9 (.builtin "all"), de P [97,110,121] 10 (.builtin "any"), de P [97,115,99,105,105] 11 (.builtin "ascii"), de P [98,105,110] 12 (.builtin "bin"), de P [98,114,101,97,107,112,111,105,110,116] 13 (.builtin "breakpoint"), de P [99,97,108,108,97,98,108,101] 14 (.builtin "callable"), de P [99,104,114] 15 (.builtin "chr"), de P [99,111,109,112,105,108,101] 16 (.builtin "compile"), de P [100,101,108,97,116,116,114] 17 (.builtin "delattr"), de P [100,105,114] 18 (.builtin "dir"), de P [100,105,118,109,111,100] 19 (.builtin "divmod"), de P [101,118,97,108] 20 (.builtin "eval"), de P [101,120,101,99] 21 (.builtin "exec"), de P [102,111,114,109,97,116] 22 (.builtin "format"), de P [103,101,116,97,116,116,114] 23 (.builtin "getattr"), de P [103,108,111,98,97,108,115] 24 (.builtin "globals"), de P [104,97,115,97,116,116,114] 25 (.builtin "hasattr"), de P [104,97,115,104] 26 (.builtin "hash"), de P [104,101,120] 27 (.builtin "hex"), de P [105,100] 28 (.builtin "id"), de P [105,110,112,117,116] 29 (.builtin "input"), de P [105,115,105,110,115,116,97,110,99,101] 30 (.builtin "isinstance"), de P [105,115,115,117,98,99,108,97,115,115] 31 (.builtin "issubclass"), de P [105,116,101,114] 32 (.builtin "iter"), de P [97,105,116,101,114] 33 (.builtin "aiter"), de P [108,101,110] 34 (.builtin "len"), de P [108,111,99,97,108,115] 35 (.builtin "locals"), de P [109,97,120] 36 (.builtin "max"), de P [109,105,110] 37 (.builtin "min"), de P [110,101,120,116] 38 (.builtin "next"), de P [97,110,101,120,116] 39 (.builtin "anext"), de P [111,99,116] 40 (.builtin "oct"), de P [111,114,100] 41 (.builtin "ord"), de P [112,111,119] 42 (.builtin "pow"), de P [112,114,105,110,116] 43 (.builtin "print"), de P [114,101,112,114] 44 (.builtin "repr"), de P [114,111,117,110,100] 45 (.builtin "round"), de P [115,101,116,97,116,116,114] 46 (.builtin "setattr"), de P [115,111,114,116,101,100] 47 (.builtin "sorted"), de P [115,117,109] 48 (.builtin "sum"), de P [118,97,114,115] 49 (.builtin "vars"), de P [78,111,110,101] 50 .none, de P [69,108,108,105,112,115,105,115] 51 .ellipsis, de P [78,111,116,73,109,112,108,101,109,101,110,116,101,100] 52 .notImplemented, de P [70,97,108,115,101] 53 (.bool false), de P [84,114,117,101] 54 (.bool true), de P [98,111,111,108] 55 (.type "bool"), de P [109,101,109,111,114,121,118,105,101,119] 56 (.type "memoryview"), de P [98,121,116,101,97,114,114,97,121] 57 (.type "bytearray"), de P [98,121,116,101,115] 58 (.type "bytes"), de P [99,108,97,115,115,109,101,116,104,111,100] 59 (.type "classmethod"), de P [99,111,109,112,108,101,120] 60 (.type "complex"), de P [100,105,99,116] 61 (.type "dict"), de P [101,110,117,109,101,114,97,116,101] 62 (.type "enumerate"), de P [102,105,108,116,101,114] 63 (.type "filter"), de P [102,108,111,97,116] 64 (.type "float"), de P [102,114,111,122,101,110,115,101,116] 65 (.type "frozenset"), de P [112,114,111,112,101,114,116,121] 66 (.type "property"), de P [105,110,116] 67 (.type "int"), de P [108,105,115,116] 68 (.type "list"), de P [109,97,112] 69 (.type "map"), de P [111,98,106,101,99,116] 70 (.type "object"), de P [114,97,110,103,101] 71 (.type "range"), de P [114,101,118,101,114,115,101,100] 72 (.type "reversed"), de P [115,101,116] 73 (.type "set"), de P [115,108,105,99,101] 74 (.type "slice"), de P [115,116,97,116,105,99,109,101,116,104,111,100] 75 (.type "staticmethod"), de P [115,116,114] 76 (.type "str"), de P [115,117,112,101,114] 77 (.type "super"), de P [116,117,112,108,101] 78 (.type "tuple"), de P [116,121,112,101] 79 (.type "type"), de P [122,105,112] 80 (.type "zip"), de P [95,95,100,101,98,117,103,95,95] 81 (.bool true), de P [66,97,115,101,69,120,99,101,112,116,105,111,110] 82 (.type "BaseException"), de P [66,97,115,101,69,120,99,101,112,116,105,111,110,71,114,111,117,112] 83 (.type "BaseExceptionGroup"), de P [69,120,99,101,112,116,105,111,110] 84 (.type "Exception"), de P [71,101,110,101,114,97,116,111,114,69,120,105,116] 85 (.type "GeneratorExit"), de P [75,101,121,98,111,97,114,100,73,110,116,101,114,114,117,112,116] 86 (.type "KeyboardInterrupt"), de P [83,121,115,116,101,109,69,120,105,116] 87 (.type "SystemExit"), de P [65,114,105,116,104,109,101,116,105,99,69,114,114,111,114] 88 (.type "ArithmeticError"), de P [65,115,115,101,114,116,105,111,110,69,114,114,111,114] 89 (.type "AssertionError"), de P [65,116,116,114,105,98,117,116,101,69,114,114,111,114] 90 (.type "AttributeError"), de P [66,117,102,102,101,114,69,114,114,111,114] 91 (.type "BufferError"), de P [69,79,70,69,114,114,111,114] 92 (.type "EOFError"), de P [73,109,112,111,114,116,69,114,114,111,114] 93 (.type "ImportError"), de P [76,111,111,107,117,112,69,114,114,111,114] 94 (.type "LookupError"), de P [77,101,109,111,114,121,69,114,114,111,114] 95 (.type "MemoryError"), de P [78,97,109,101,69,114,114,111,114] 96 (.type "NameError"), de P [79,83,69,114,114,111,114] 97 (.type "OSError"), de P [82,101,102,101,114,101,110,99,101,69,114,114,111,114] 98 (.type "ReferenceError"), de P [82,117,110,116,105,109,101,69,114,114,111,114] 99 (.type "RuntimeError"), de P [83,116,111,112,65,115,121,110,99,73,116,101,114,97,116,105,111,110] 100 (.type "StopAsyncIteration"), de P [83,116,111,112,73,116,101,114,97,116,105,111,110] 101 (.type "StopIteration"), de P [83,121,110,116,97,120,69,114,114,111,114] 102 (.type "SyntaxError"), de P [83,121,115,116,101,109,69,114,114,111,114] 103 (.type "SystemError"), de P [84,121,112,101,69,114,114,111,114] 104 (.type "TypeError"), de P [86,97,108,117,101,69,114,114,111,114] 105 (.type "ValueError"), de P [87,97,114,110,105,110,103] 106 (.type "Warning"), de P [70,108,111,97,116,105,110,103,80,111,105,110,116,69,114,114,111,114] 107 (.type "FloatingPointError"), de P [79,118,101,114,102,108,111,119,69,114,114,111,114] 108 (.type "OverflowError"), de P [90,101,114,111,68,105,118,105,115,105,111,110,69,114,114,111,114] 109 (.type "ZeroDivisionError"), de P [66,121,116,101,115,87,97,114,110,105,110,103] 110 (.type "BytesWarning"), de P [68,101,112,114,101,99,97,116,105,111,110,87,97,114,110,105,110,103] 111 (.type "DeprecationWarning"), de P [69,110,99,111,100,105,110,103,87,97,114,110,105,110,103] 112 (.type "EncodingWarning"), de P [70,117,116,117,114,101,87,97,114,110,105,110,103] 113 (.type "FutureWarning"), de P [73,109,112,111,114,116,87,97,114,110,105,110,103] 114 (.type "ImportWarning"), de P [80,101,110,100,105,110,103,68,101,112,114,101,99,97,116,105,111,110,87,97,114,110,105,110,103] 115 (.type "PendingDeprecationWarning"), de P [82,101,115,111,117,114,99,101,87,97,114,110,105,110,103] 116 (.type "ResourceWarning"), de P [82,117,110,116,105,109,101,87,97,114,110,105,110,103] 117 (.type "RuntimeWarning"), de P [83,121,110,116,97,120,87,97,114,110,105,110,103] 118 (.type "SyntaxWarning"), de P [85,110,105,99,111,100,101,87,97,114,110,105,110,103] 119 (.type "UnicodeWarning"), de P [85,115,101,114,87,97,114,110,105,110,103] 120 (.type "UserWarning"), de P [66,108,111,99,107,105,110,103,73,79,69,114,114,111,114] 121 (.type "BlockingIOError"), de P [67,104,105,108,100,80,114,111,99,101,115,115,69,114,114,111,114] 122 (.type "ChildProcessError"), de P [67,111,110,110,101,99,116,105,111,110,69,114,114,111,114] 123 (.type "ConnectionError"), de P [70,105,108,101,69,120,105,115,116,115,69,114,114,111,114] 124 (.type "FileExistsError"), de P [70,105,108,101,78,111,116,70,111,117,110,100,69,114,114,111,114] 125 (.type "FileNotFoundError"), de P [73,110,116,101,114,114,117,112,116,101,100,69,114,114,111,114] 126 (.type "InterruptedError"), de P [73,115,65,68,105,114,101,99,116,111,114,121,69,114,114,111,114] 127 (.type "IsADirectoryError"), de P [78,111,116,65,68,105,114,101,99,116,111,114,121,69,114,114,111,114] 128 (.type "NotADirectoryError"), de P [80,101,114,109,105,115,115,105,111,110,69,114,114,111,114] 129 (.type "PermissionError"), de P [80,114,111,99,101,115,115,76,111,111,107,117,112,69,114,114,111,114] 130 (.type "ProcessLookupError"), de P [84,105,109,101,111,117,116,69,114,114,111,114] 131 (.type "TimeoutError"), de P [73,110,100,101,110,116,97,116,105,111,110,69,114,114,111,114] 132 (.type "IndentationError"), de P [95,73,110,99,111,109,112,108,101,116,101,73,110,112,117,116,69,114,114,111,114] 133 (.type "_IncompleteInputError"), de P [73,110,100,101,120,69,114,114,111,114] 134 (.type "IndexError"), de P [75,101,121,69,114,114,111,114] 135 (.type "KeyError"), de P [77,111,100,117,108,101,78,111,116,70,111,117,110,100,69,114,114,111,114] 136 (.type "ModuleNotFoundError"), de P [78,111,116,73,109,112,108,101,109,101,110,116,101,100,69,114,114,111,114] 137 (.type "NotImplementedError"), de P [80,121,116,104,111,110,70,105,110,97,108,105,122,97,116,105,111,110,69,114,114,111,114] 138 (.type "PythonFinalizationError"), de P [82,101,99,117,114,115,105,111,110,69,114,114,111,114] 139 (.type "RecursionError"), de P [85,110,98,111,117,110,100,76,111,99,97,108,69,114,114,111,114] 140 (.type "UnboundLocalError"), de P [85,110,105,99,111,100,101,69,114,114,111,114] 141 (.type "UnicodeError"), de P [66,114,111,107,101,110,80,105,112,101,69,114,114,111,114] 142 (.type "BrokenPipeError"), de P [67,111,110,110,101,99,116,105,111,110,65,98,111,114,116,101,100,69,114,114,111,114] 143 (.type "ConnectionAbortedError"), de P [67,111,110,110,101,99,116,105,111,110,82,101,102,117,115,101,100,69,114,114,111,114] 144 (.type "ConnectionRefusedError"), de P [67,111,110,110,101,99,116,105,111,110,82,101,115,101,116,69,114,114,111,114] 145 (.type "ConnectionResetError"), de P [84,97,98,69,114,114,111,114] 146 (.type "TabError"), de P [85,110,105,99,111,100,101,68,101,99,111,100,101,69,114,114,111,114] 147 (.type "UnicodeDecodeError"), de P [85,110,105,99,111,100,101,69,110,99,111,100,101,69,114,114,111,114] 148 (.type "UnicodeEncodeError"), de P [85,110,105,99,111,100,101,84,114,97,110,115,108,97,116,101,69,114,114,111,114] 149 (.type "UnicodeTranslateError"), de P [69,120,99,101,112,116,105,111,110,71,114,111,117,112] 150 (.type "ExceptionGroup"), de P [69,110,118,105,114,111,110,109,101,110,116,69,114,114,111,114] 151 (.type "OSError"), de P [73,79,69,114,114,111,114] 152 (.type "OSError"), de P [111,112,101,110] 153 (.builtin "open"), de P [113,117,105,116] 154 (.builtin "builtins.quit#opaque"), de P [101,120,105,116] 155 (.builtin "builtins.exit#opaque"), de P [99,111,112,121,114,105,103,104,116] 156 (.builtin "builtins.copyright#opaque"), de P [99,114,101,100,105,116,115] 157 (.builtin "builtins.credits#opaque"), de P [108,105,99,101,110,115,101] 158 (.builtin "builtins.license#opaque"), de P [104,101,108,112] 159 (.builtin "builtins.help#opaque")]⟩ 159, slots := ⟨[]⟩ }
noncomputable def o1v0 (q : Program) (P : Params) : Obj := { cls := (.type "dict"), dict := none, data := .dict ⟨[de P [98,117,105,108,116,105,110,115] 162 (.ref 4), de P [95,95,109,97,105,110,95,95] 163 (.ref 5), de P [95,115,114,101] 244 (.ref 12)]⟩ 3, slots := ⟨[]⟩ }
noncomputable def o2v0 (q : Program) (P : Params) : Obj := { cls := .none, dict := none, data := .dict ⟨[de P [105,109,112,111,114,116,46,108,111,97,100,101,100,46,95,115,114,101] 183 (.bool true), de P [99,108,97,115,115,46,95,102,114,111,122,101,110,95,105,109,112,111,114,116,108,105,98,46,66,117,105,108,116,105,110,73,109,112,111,114,116,101,114] 185 (.ref 14), de P [119,97,116,99,104,101,100,46,105,109,112,111,114,116] 206 (.ref 18), de P [99,108,97,115,115,46,95,102,114,111,122,101,110,95,105,109,112,111,114,116,108,105,98,46,77,111,100,117,108,101,83,112,101,99] 216 (.ref 22), de P [115,121,115,46,109,111,100,117,108,101,115,46,98,111,111,107,101,100,45,101,112,111,99,104] 245 (.int 3 0), de P [105,109,112,111,114,116,46,108,97,116,101,114,45,108,97,105,100,46,95,115,114,101] 270 (.bool true), de P [119,97,116,99,104,101,100,46,108,105,98,114,97,114,121] 272 (.ref 27), de P [119,97,116,99,104,101,100,46,108,105,98,114,97,114,121,45,111,98,106,101,99,116,115] 0 (vs [12] 0), de P [119,97,116,99,104,101,100,46,108,105,98,114,97,114,121,45,100,101,101,112,46,95,115,114,101] 273 (vs [4,0,0,11,4,0,0,11,4,0,0,3,4,0,0,11,8,4,100,105,99,116,2] 0)]⟩ 9, slots := ⟨[]⟩ }
noncomputable def o3v0 (q : Program) (P : Params) : Obj := { cls := (.type "dict"), dict := none, data := .dict ⟨[de P [95,95,110,97,109,101,95,95] 165 (vs [95,95,109,97,105,110,95,95] 164), de P [95,95,100,111,99,95,95] 166 .none, de P [95,95,112,97,99,107,97,103,101,95,95] 167 .none, de P [95,95,108,111,97,100,101,114,95,95] 168 (.builtin "__main__.__loader__#opaque"), de P [95,95,115,112,101,99,95,95] 169 .none, de P [95,95,97,110,110,111,116,97,116,105,111,110,115,95,95] 170 (.ref 6), de P [95,95,98,117,105,108,116,105,110,115,95,95] 171 (.ref 4), de P [95,95,102,105,108,101,95,95] 173 (vs [47,99,108,97,105,109,47,99,117,116,46,112,121] 172), de P [95,95,99,97,99,104,101,100,95,95] 174 .none, de P [95,115,114,101] 275 (.ref 12)]⟩ 10, slots := ⟨[]⟩ }
noncomputable def o4v0 (q : Program) (P : Params) : Obj := { cls := (.type "module"), dict := (some 0), data := .plain, slots := ⟨[]⟩ }
noncomputable def o5v0 (q : Program) (P : Params) : Obj := { cls := (.type "module"), dict := (some 3), data := .plain, slots := ⟨[]⟩ }
noncomputable def o6v0 (q : Program) (P : Params) : Obj := { cls := (.type "dict"), dict := none, data := .dict ⟨[]⟩ 0, slots := ⟨[]⟩ }
noncomputable def o7v0 (q : Program) (P : Params) : Obj := { cls := (.type "tuple"), dict := none, data := .seq ⟨[]⟩ 0, slots := ⟨[]⟩ }
noncomputable def o8v0 (q : Program) (P : Params) : Obj := { cls := .none, dict := none, data := .fields ⟨[]⟩, slots := ⟨[]⟩ }
noncomputable def o9v0 (q : Program) (P : Params) : Obj := { cls := (.type "code"), dict := none, data := .fields ⟨[(vs [60,109,111,100,117,108,101,62] 176), (vs [60,109,111,100,117,108,101,62] 177), (vs [47,99,108,97,105,109,47,99,117,116,46,112,121] 178), (.int 1 0), (.int 0 0), (.int 0 0), (.int 0 0), (.int 0 0), (.ref 7), (.bool false), (.int 175 0), (.ref 8), .none, .none, .none, .none, (.int 179 0), (.int 1 0), (vs [47,99,108,97,105,109,47,99,117,116,46,112,121] 180)]⟩, slots := ⟨[]⟩ }
noncomputable def o10v0 (q : Program) (P : Params) : Obj := { cls := (.type "frame"), dict := none, data := .plain, slots := ⟨[(some (.ref 9)), (some (.ref 3)), (some (.ref 3)), none, (some (vs [95,95,109,97,105,110,95,95] 164)), none, (some (.ref 0))]⟩ }
noncomputable def o11v0 (q : Program) (P : Params) : Obj := { cls := (.type "dict"), dict := none, data := .dict ⟨[de P [95,95,110,97,109,101,95,95] 247 (vs [95,115,114,101] 246), de P [95,95,100,111,99,95,95] 248 .none, de P [95,95,112,97,99,107,97,103,101,95,95] 250 (vs [] 249), de P [95,95,108,111,97,100,101,114,95,95] 251 (.ref 14), de P [95,95,115,112,101,99,95,95] 252 (.ref 26), de P [99,111,109,112,105,108,101] 253 (.builtin "_sre.compile"), de P [116,101,109,112,108,97,116,101] 254 (.builtin "_sre.template"), de P [103,101,116,99,111,100,101,115,105,122,101] 255 (.builtin "_sre.getcodesize"), de P [97,115,99,105,105,95,105,115,99,97,115,101,100] 256 (.builtin "_sre.ascii_iscased"), de P [117,110,105,99,111,100,101,95,105,115,99,97,115,101,100] 257 (.builtin "_sre.unicode_iscased"), de P [97,115,99,105,105,95,116,111,108,111,119,101,114] 258 (.builtin "_sre.ascii_tolower"), de P [117,110,105,99,111,100,101,95,116,111,108,111,119,101,114] 259 (.builtin "_sre.unicode_tolower"), de P [77,65,71,73,67] 261 (.int 20230612 260), de P [67,79,68,69,83,73,90,69] 263 (.int 4 262), de P [77,65,88,82,69,80,69,65,84] 265 (.int 4294967295 264), de P [77,65,88,71,82,79,85,80,83] 267 (.int 1073741823 266), de P [99,111,112,121,114,105,103,104,116] 269 (vs [32,83,82,69,32,50,46,50,46,50,32,67,111,112,121,114,105,103,104,116,32,40,99,41,32,49,57,57,55,45,50,48,48,50,32,98,121,32,83,101,99,114,101,116,32,76,97,98,115,32,65,66,32] 268)]⟩ 17, slots := ⟨[]⟩ }
noncomputable def o12v0 (q : Program) (P : Params) : Obj := { cls := (.type "module"), dict := (some 11), data := .plain, slots := ⟨[]⟩ }
noncomputable def o13v0 (q : Program) (P : Params) : Obj := { cls := (.type "dict"), dict := none, data := .dict ⟨[de P [95,95,109,111,100,117,108,101,95,95] 189 (vs [95,102,114,111,122,101,110,95,105,109,112,111,114,116,108,105,98] 186), de P [95,95,102,105,114,115,116,108,105,110,101,110,111,95,95] 190 (.int 971 187), de P [95,95,100,111,99,95,95] 191 (.builtin "_frozen_importlib.BuiltinImporter.__doc__:str#opaque"), de P [95,79,82,73,71,73,78] 192 (vs [98,117,105,108,116,45,105,110] 188), de P [102,105,110,100,95,115,112,101,99] 193 (.builtin "_frozen_importlib.BuiltinImporter.find_spec#opaque"), de P [99,114,101,97,116,101,95,109,111,100,117,108,101] 194 (.builtin "_frozen_importlib.BuiltinImporter.create_module#opaque"), de P [101,120,101,99,95,109,111,100,117,108,101] 195 (.builtin "_frozen_importlib.BuiltinImporter.exec_module#opaque"), de P [103,101,116,95,99,111,100,101] 196 (.builtin "_frozen_importlib.BuiltinImporter.get_code#opaque"), de P [103,101,116,95,115,111,117,114,99,101] 197 (.builtin "_frozen_importlib.BuiltinImporter.get_source#opaque"), de P [105,115,95,112,97,99,107,97,103,101] 198 (.builtin "_frozen_importlib.BuiltinImporter.is_package#opaque"), de P [108,111,97,100,95,109,111,100,117,108,101] 199 (.builtin "_frozen_importlib.BuiltinImporter.load_module#opaque"), de P [95,95,115,116,97,116,105,99,95,97,116,116,114,105,98,117,116,101,115,95,95] 200 (.ref 15), de P [95,95,100,105,99,116,95,95] 202 (.ref 16), de P [95,95,119,101,97,107,114,101,102,95,95] 204 (.ref 17)]⟩ 14, slots := ⟨[]⟩ }
noncomputable def o14v0 (q : Program) (P : Params) : Obj := { cls := (.type "type"), dict := none, data := .cls { name := ⟨⟨[66,117,105,108,116,105,110,73,109,112,111,114,116,101,114]⟩⟩, bases := [(.type "object")], mro := [(.ref 14), (.type "object")], ns := 13, qualname := ⟨⟨[66,117,105,108,116,105,110,73,109,112,111,114,116,101,114]⟩⟩, hasDict := true, slotNames := [], subclasses := [], abstract := false, collection := none, hasDel := false }, slots := ⟨[]⟩ }
noncomputable def o15v0 (q : Program) (P : Params) : Obj := { cls := (.type "tuple"), dict := none, data := .seq ⟨[]⟩ 0, slots := ⟨[]⟩ }
noncomputable def o16v0 (q : Program) (P : Params) : Obj := { cls := (.type "getset_descriptor"), dict := none, data := .fields ⟨[(vs [95,95,100,105,99,116,95,95] 201), (.ref 14), (.builtin "function.__dict__"), (.builtin "function.__dict__#set")]⟩, slots := ⟨[]⟩ }
noncomputable def o17v0 (q : Program) (P : Params) : Obj := { cls := (.type "getset_descriptor"), dict := none, data := .fields ⟨[(vs [95,95,119,101,97,107,114,101,102,95,95] 203), (.ref 14), (.builtin "ExceptionGroup.__weakref__"), .none]⟩, slots := ⟨[]⟩ }
noncomputable def o18v0 (q : Program) (P : Params) : Obj := { cls := .none, dict := none, data := .seq ⟨[(.int 13 0), (vs [6,189,10,95,95,109,111,100,117,108,101,95,95,6,186,17,95,102,114,111,122,101,110,95,105,109,112,111,114,116,108,105,98,6,190,15,95,95,102,105,114,115,116,108,105,110,101,110,111,95,95,4,187,0,971,6,191,7,95,95,100,111,99,95,95,9,52,95,102,114,111,122,101,110,95,105,109,112,111,114,116,108,105,98,46,66,117,105,108,116,105,110,73,109,112,111,114,116,101,114,46,95,95,100,111,99,95,95,58,115,116,114,35,111,112,97,113,117,101,6,192,7,95,79,82,73,71,73,78,6,188,8,98,117,105,108,116,45,105,110,6,193,9,102,105,110,100,95,115,112,101,99,9,50,95,102,114,111,122,101,110,95,105,109,112,111,114,116,108,105,98,46,66,117,105,108,116,105,110,73,109,112,111,114,116,101,114,46,102,105,110,100,95,115,112,101,99,35,111,112,97,113,117,101,6,194,13,99,114,101,97,116,101,95,109,111,100,117,108,101,9,54,95,102,114,111,122,101,110,95,105,109,112,111,114,116,108,105,98,46,66,117,105,108,116,105,110,73,109,112,111,114,116,101,114,46,99,114,101,97,116,101,95,109,111,100,117,108,101,35,111,112,97,113,117,101,6,195,11,101,120,101,99,95,109,111,100,117,108,101,9,52,95,102,114,111,122,101,110,95,105,109,112,111,114,116,108,105,98,46,66,117,105,108,116,105,110,73,109,112,111,114,116,101,114,46,101,120,101,99,95,109,111,100,117,108,101,35,111,112,97,113,117,101,6,196,8,103,101,116,95,99,111,100,101,9,49,95,102,114,111,122,101,110,95,105,109,112,111,114,116,108,105,98,46,66,117,105,108,116,105,110,73,109,112,111,114,116,101,114,46,103,101,116,95,99,111,100,101,35,111,112,97,113,117,101,6,197,10,103,101,116,95,115,111,117,114,99,101,9,51,95,102,114,111,122,101,110,95,105,109,112,111,114,116,108,105,98,46,66,117,105,108,116,105,110,73,109,112,111,114,116,101,114,46,103,101,116,95,115,111,117,114,99,101,35,111,112,97,113,117,101,6,198,10,105,115,95,112,97,99,107,97,103,101,9,51,95,102,114,111,122,101,110,95,105,109,112,111,114,116,108,105,98,46,66,117,105,108,116,105,110,73,109,112,111,114,116,101,114,46,105,115,95,112,97,99,107,97,103,101,35,111,112,97,113,117,101,6,199,11,108,111,97,100,95,109,111,100,117,108,101,9,52,95,102,114,111,122,101,110,95,105,109,112,111,114,116,108,105,98,46,66,117,105,108,116,105,110,73,109,112,111,114,116,101,114,46,108,111,97,100,95,109,111,100,117,108,101,35,111,112,97,113,117,101,6,200,21,95,95,115,116,97,116,105,99,95,97,116,116,114,105,98,117,116,101,115,95,95,4,0,0,15,6,202,8,95,95,100,105,99,116,95,95,4,0,0,16,6,204,11,95,95,119,101,97,107,114,101,102,95,95,4,0,0,17] 0), (.bool true), (.bool true), (vs [] 205), (.int 21 0), (vs [6,227,10,95,95,109,111,100,117,108,101,95,95,6,217,17,95,102,114,111,122,101,110,95,105,109,112,111,114,116,108,105,98,6,228,15,95,95,102,105,114,115,116,108,105,110,101,110,111,95,95,4,218,0,562,6,229,7,95,95,100,111,99,95,95,9,47,95,102,114,111,122,101,110,95,105,109,112,111,114,116,108,105,98,46,77,111,100,117,108,101,83,112,101,99,46,95,95,100,111,99,95,95,58,115,116,114,35,111,112,97,113,117,101,6,230,8,95,95,105,110,105,116,95,95,9,44,95,102,114,111,122,101,110,95,105,109,112,111,114,116,108,105,98,46,77,111,100,117,108,101,83,112,101,99,46,95,95,105,110,105,116,95,95,35,111,112,97,113,117,101,6,231,8,95,95,114,101,112,114,95,95,9,44,95,102,114,111,122,101,110,95,105,109,112,111,114,116,108,105,98,46,77,111,100,117,108,101,83,112,101,99,46,95,95,114,101,112,114,95,95,35,111,112,97,113,117,101,6,232,6,95,95,101,113,95,95,9,42,95,102,114,111,122,101,110,95,105,109,112,111,114,116,108,105,98,46,77,111,100,117,108,101,83,112,101,99,46,95,95,101,113,95,95,35,111,112,97,113,117,101,6,233,6,99,97,99,104,101,100,9,42,95,102,114,111,122,101,110,95,105,109,112,111,114,116,108,105,98,46,77,111,100,117,108,101,83,112,101,99,46,99,97,99,104,101,100,35,111,112,97,113,117,101,6,234,6,112,97,114,101,110,116,9,42,95,102,114,111,122,101,110,95,105,109,112,111,114,116,108,105,98,46,77,111,100,117,108,101,83,112,101,99,46,112,97,114,101,110,116,35,111,112,97,113,117,101,6,235,12,104,97,115,95,108,111,99,97,116,105,111,110,9,48,95,102,114,111,122,101,110,95,105,109,112,111,114,116,108,105,98,46,77,111,100,117,108,101,83,112,101,99,46,104,97,115,95,108,111,99,97,116,105,111,110,35,111,112,97,113,117,101,6,236,21,95,95,115,116,97,116,105,99,95,97,116,116,114,105,98,117,116,101,115,95,95,4,0,0,23,6,238,8,95,95,100,105,99,116,95,95,4,0,0,24,6,240,11,95,95,119,101,97,107,114,101,102,95,95,4,0,0,25,6,241,8,95,95,104,97,115,104,95,95,0] 0), (.bool true), (.bool true), (vs [] 242)]⟩ 1, slots := ⟨[]⟩ }
noncomputable def o19v0 (q : Program) (P : Params) : Obj := { cls := (.type "list"), dict := none, data := .seq ⟨[]⟩ 0, slots := ⟨[]⟩ }
noncomputable def o20v0 (q : Program) (P : Params) : Obj := { cls := (.type "dict"), dict := none, data := .dict ⟨[de P [110,97,109,101] 208 (vs [95,115,114,101] 207), de P [108,111,97,100,101,114] 209 (.ref 14), de P [111,114,105,103,105,110] 210 (vs [98,117,105,108,116,45,105,110] 184), de P [108,111,97,100,101,114,95,115,116,97,116,101] 211 .none, de P [115,117,98,109,111,100,117,108,101,95,115,101,97,114,99,104,95,108,111,99,97,116,105,111,110,115] 212 .none, de P [95,117,110,105,110,105,116,105,97,108,105,122,101,100,95,115,117,98,109,111,100,117,108,101,115] 213 (.ref 19), de P [95,115,101,116,95,102,105,108,101,97,116,116,114] 214 (.bool false), de P [95,99,97,99,104,101,100] 215 .none, de P [95,105,110,105,116,105,97,108,105,122,105,110,103] 243 (.bool false)]⟩ 9, slots := ⟨[]⟩ }
noncomputable def o21v0 (q : Program) (P : Params) : Obj := { cls := (.type "dict"), dict := none, data := .dict ⟨[de P [95,95,109,111,100,117,108,101,95,95] 227 (vs [95,102,114,111,122,101,110,95,105,109,112,111,114,116,108,105,98] 217), de P [95,95,102,105,114,115,116,108,105,110,101,110,111,95,95] 228 (.int 562 218), de P [95,95,100,111,99,95,95] 229 (.builtin "_frozen_importlib.ModuleSpec.__doc__:str#opaque"), de P [95,95,105,110,105,116,95,95] 230 (.builtin "_frozen_importlib.ModuleSpec.__init__#opaque"), de P [95,95,114,101,112,114,95,95] 231 (.builtin "_frozen_importlib.ModuleSpec.__repr__#opaque"), de P [95,95,101,113,95,95] 232 (.builtin "_frozen_importlib.ModuleSpec.__eq__#opaque"), de P [99,97,99,104,101,100] 233 (.builtin "_frozen_importlib.ModuleSpec.cached#opaque"), de P [112,97,114,101,110,116] 234 (.builtin "_frozen_importlib.ModuleSpec.parent#opaque"), de P [104,97,115,95,108,111,99,97,116,105,111,110] 235 (.builtin "_frozen_importlib.ModuleSpec.has_location#opaque"), de P [95,95,115,116,97,116,105,99,95,97,116,116,114,105,98,117,116,101,115,95,95] 236 (.ref 23), de P [95,95,100,105,99,116,95,95] 238 (.ref 24), de P [95,95,119,101,97,107,114,101,102,95,95] 240 (.ref 25), de P [95,95,104,97,115,104,95,95] 241 .none]⟩ 13, slots := ⟨[]⟩ }
noncomputable def o22v0 (q : Program) (P : Params) : Obj := { cls := (.type "type"), dict := none, data := .cls { name := ⟨⟨[77,111,100,117,108,101,83,112,101,99]⟩⟩, bases := [(.type "object")], mro := [(.ref 22), (.type "object")], ns := 21, qualname := ⟨⟨[77,111,100,117,108,101,83,112,101,99]⟩⟩, hasDict := true, slotNames := [], subclasses := [], abstract := false, collection := none, hasDel := false }, slots := ⟨[]⟩ }
noncomputable def o23v0 (q : Program) (P : Params) : Obj := { cls := (.type "tuple"), dict := none, data := .seq ⟨[(vs [95,99,97,99,104,101,100] 219), (vs [95,115,101,116,95,102,105,108,101,97,116,116,114] 220), (vs [95,117,110,105,110,105,116,105,97,108,105,122,101,100,95,115,117,98,109,111,100,117,108,101,115] 221), (vs [108,111,97,100,101,114] 222), (vs [108,111,97,100,101,114,95,115,116,97,116,101] 223), (vs [110,97,109,101] 224), (vs [111,114,105,103,105,110] 225), (vs [115,117,98,109,111,100,117,108,101,95,115,101,97,114,99,104,95,108,111,99,97,116,105,111,110,115] 226)]⟩ 0, slots := ⟨[]⟩ }
noncomputable def o24v0 (q : Program) (P : Params) : Obj := { cls := (.type "getset_descriptor"), dict := none, data := .fields ⟨[(vs [95,95,100,105,99,116,95,95] 237), (.ref 22), (.builtin "function.__dict__"), (.builtin "function.__dict__#set")]⟩, slots := ⟨[]⟩ }
noncomputable def o25v0 (q : Program) (P : Params) : Obj := { cls := (.type "getset_descriptor"), dict := none, data := .fields ⟨[(vs [95,95,119,101,97,107,114,101,102,95,95] 239), (.ref 22), (.builtin "ExceptionGroup.__weakref__"), .none]⟩, slots := ⟨[]⟩ }
noncomputable def o26v0 (q : Program) (P : Params) : Obj := { cls := (.ref 22), dict := (some 20), data := .plain, slots := ⟨[]⟩ }
noncomputable def o27v0 (q : Program) (P : Params) : Obj := { cls := .none, dict := none, data := .seq ⟨[(.int 11 0), (vs [6,247,8,95,95,110,97,109,101,95,95,6,246,4,95,115,114,101,6,248,7,95,95,100,111,99,95,95,0,6,250,11,95,95,112,97,99,107,97,103,101,95,95,6,249,0,6,251,10,95,95,108,111,97,100,101,114,95,95,4,0,0,14,6,252,8,95,95,115,112,101,99,95,95,4,0,0,26,6,253,7,99,111,109,112,105,108,101,9,12,95,115,114,101,46,99,111,109,112,105,108,101,6,254,8,116,101,109,112,108,97,116,101,9,13,95,115,114,101,46,116,101,109,112,108,97,116,101,6,255,11,103,101,116,99,111,100,101,115,105,122,101,9,16,95,115,114,101,46,103,101,116,99,111,100,101,115,105,122,101,6,256,13,97,115,99,105,105,95,105,115,99,97,115,101,100,9,18,95,115,114,101,46,97,115,99,105,105,95,105,115,99,97,115,101,100,6,257,15,117,110,105,99,111,100,101,95,105,115,99,97,115,101,100,9,20,95,115,114,101,46,117,110,105,99,111,100,101,95,105,115,99,97,115,101,100,6,258,13,97,115,99,105,105,95,116,111,108,111,119,101,114,9,18,95,115,114,101,46,97,115,99,105,105,95,116,111,108,111,119,101,114,6,259,15,117,110,105,99,111,100,101,95,116,111,108,111,119,101,114,9,20,95,115,114,101,46,117,110,105,99,111,100,101,95,116,111,108,111,119,101,114,6,261,5,77,65,71,73,67,4,260,0,20230612,6,263,8,67,79,68,69,83,73,90,69,4,262,0,4,6,265,9,77,65,88,82,69,80,69,65,84,4,264,0,4294967295,6,267,9,77,65,88,71,82,79,85,80,83,4,266,0,1073741823,6,269,9,99,111,112,121,114,105,103,104,116,6,268,53,32,83,82,69,32,50,46,50,46,50,32,67,111,112,121,114,105,103,104,116,32,40,99,41,32,49,57,57,55,45,50,48,48,50,32,98,121,32,83,101,99,114,101,116,32,76,97,98,115,32,65,66,32] 0), (.bool true), (.bool false), (vs [95,115,114,101] 271)]⟩ 0, slots := ⟨[]⟩ }
noncomputable def tr_e (q : Program) (P : Params) : BT := (.node (o0v0 q P) (.node (o1v0 q P) (.node (o3v0 q P) (.node (o7v0 q P) (.node (o15v0 q P) .nil .nil) (.node (o23v0 q P) .nil .nil)) (.node (o11v0 q P) (.node (o19v0 q P) .nil .nil) (.node (o27v0 q P) .nil .nil))) (.node (o5v0 q P) (.node (o9v0 q P) (.node (o17v0 q P) .nil .nil) (.node (o25v0 q P) .nil .nil)) (.node (o13v0 q P) (.node (o21v0 q P) .nil .nil) .nil))) (.node (o2v0 q P) (.node (o4v0 q P) (.node (o8v0 q P) (.node (o16v0 q P) .nil .nil) (.node (o24v0 q P) .nil .nil)) (.node (o12v0 q P) (.node (o20v0 q P) .nil .nil) .nil)) (.node (o6v0 q P) (.node (o10v0 q P) (.node (o18v0 q P) .nil .nil) (.node (o26v0 q P) .nil .nil)) (.node (o14v0 q P) (.node (o22v0 q P) .nil .nil) .nil))))
noncomputable def o11v1 (q : Program) (P : Params) : Obj := { cls := (.type "dict"), dict := none, data := .dict ⟨[de P [95,95,110,97,109,101,95,95] 247 (vs [95,115,114,101] 246), de P [95,95,100,111,99,95,95] 248 .none, de P [95,95,112,97,99,107,97,103,101,95,95] 250 (vs [] 249), de P [95,95,108,111,97,100,101,114,95,95] 251 (.builtin "off-the-table:_sre.__loader__:shared#opaque"), de P [95,95,115,112,101,99,95,95] 252 (.builtin "off-the-table:_sre.__spec__:shared#opaque"), de P [99,111,109,112,105,108,101] 253 (.builtin "_sre.compile"), de P [116,101,109,112,108,97,116,101] 254 (.builtin "off-the-table:_sre.template:shared#opaque"), de P [103,101,116,99,111,100,101,115,105,122,101] 255 (.builtin "off-the-table:_sre.getcodesize:shared#opaque"), de P [97,115,99,105,105,95,105,115,99,97,115,101,100] 256 (.builtin "off-the-table:_sre.ascii_iscased:shared#opaque"), de P [117,110,105,99,111,100,101,95,105,115,99,97,115,101,100] 257 (.builtin "off-the-table:_sre.unicode_iscased:shared#opaque"), de P [97,115,99,105,105,95,116,111,108,111,119,101,114] 258 (.builtin "off-the-table:_sre.ascii_tolower:shared#opaque"), de P [117,110,105,99,111,100,101,95,116,111,108,111,119,101,114] 259 (.builtin "off-the-table:_sre.unicode_tolower:shared#opaque"), de P [77,65,71,73,67] 261 (.int 20230612 260), de P [67,79,68,69,83,73,90,69] 263 (.int 4 262), de P [77,65,88,82,69,80,69,65,84] 265 (.int 4294967295 264), de P [77,65,88,71,82,79,85,80,83] 267 (.int 1073741823 266), de P [99,111,112,121,114,105,103,104,116] 269 (vs [32,83,82,69,32,50,46,50,46,50,32,67,111,112,121,114,105,103,104,116,32,40,99,41,32,49,57,57,55,45,50,48,48,50,32,98,121,32,83,101,99,114,101,116,32,76,97,98,115,32,65,66,32] 268)]⟩ 17, slots := ⟨[]⟩ }
noncomputable def tr_0 (q : Program) (P : Params) : BT := (.node (o0v0 q P) (.node (o1v0 q P) (.node (o3v0 q P) (.node (o7v0 q P) (.node (o15v0 q P) .nil .nil) (.node (o23v0 q P) .nil .nil)) (.node (o11v1 q P) (.node (o19v0 q P) .nil .nil) (.node (o27v0 q P) .nil .nil))) (.node (o5v0 q P) (.node (o9v0 q P) (.node (o17v0 q P) .nil .nil) (.node (o25v0 q P) .nil .nil)) (.node (o13v0 q P) (.node (o21v0 q P) .nil .nil) .nil))) (.node (o2v0 q P) (.node (o4v0 q P) (.node (o8v0 q P) (.node (o16v0 q P) .nil .nil) (.node (o24v0 q P) .nil .nil)) (.node (o12v0 q P) (.node (o20v0 q P) .nil .nil) .nil)) (.node (o6v0 q P) (.node (o10v0 q P) (.node (o18v0 q P) .nil .nil) (.node (o26v0 q P) .nil .nil)) (.node (o14v0 q P) (.node (o22v0 q P) .nil .nil) .nil))))
noncomputable def o28v0 (q : Program) (P : Params) : Obj := { cls := (.type "tuple"), dict := none, data := .seq ⟨[]⟩ 0, slots := ⟨[]⟩ }
noncomputable def o29v0 (q : Program) (P : Params) : Obj := { cls := .none, dict := none, data := .fields ⟨[]⟩, slots := ⟨[]⟩ }
noncomputable def o30v0 (q : Program) (P : Params) : Obj := { cls := (.type "code"), dict := none, data := .fields ⟨[(vs [60,109,111,100,117,108,101,62] 277), (vs [60,109,111,100,117,108,101,62] 278), (vs [47,99,108,97,105,109,47,99,117,116,46,112,121] 279), (.int 1 0), (.int 0 0), (.int 0 0), (.int 0 0), (.int 0 0), (.ref 28), (.bool false), (.int 276 0), (.ref 29), .none, .none, .none, .none, (.int 280 0), (.int 1 0), (vs [47,99,108,97,105,109,47,99,117,116,46,112,121] 281)]⟩, slots := ⟨[]⟩ }
noncomputable def o31v0 (q : Program) (P : Params) : Obj := { cls := (.type "frame"), dict := none, data := .plain, slots := ⟨[(some (.ref 30)), (some (.ref 3)), (some (.ref 3)), none, (some (vs [95,95,109,97,105,110,95,95] 164)), none, (some (.ref 0))]⟩ }
noncomputable def tr_a (q : Program) (P : Params) : BT := (.node (o0v0 q P) (.node (o1v0 q P) (.node (o3v0 q P) (.node (o7v0 q P) (.node (o15v0 q P) (.node (o31v0 q P) .nil .nil) .nil) (.node (o23v0 q P) .nil .nil)) (.node (o11v1 q P) (.node (o19v0 q P) .nil .nil) (.node (o27v0 q P) .nil .nil))) (.node (o5v0 q P) (.node (o9v0 q P) (.node (o17v0 q P) .nil .nil) (.node (o25v0 q P) .nil .nil)) (.node (o13v0 q P) (.node (o21v0 q P) .nil .nil) (.node (o29v0 q P) .nil .nil)))) (.node (o2v0 q P) (.node (o4v0 q P) (.node (o8v0 q P) (.node (o16v0 q P) .nil .nil) (.node (o24v0 q P) .nil .nil)) (.node (o12v0 q P) (.node (o20v0 q P) .nil .nil) (.node (o28v0 q P) .nil .nil))) (.node (o6v0 q P) (.node (o10v0 q P) (.node (o18v0 q P) .nil .nil) (.node (o26v0 q P) .nil .nil)) (.node (o14v0 q P) (.node (o22v0 q P) .nil .nil) (.node (o30v0 q P) .nil .nil)))))
noncomputable def tr_b (q : Program) (P : Params) : BT := (.node (o0v0 q P) (.node (o1v0 q P) (.node (o3v0 q P) (.node (o7v0 q P) (.node (o15v0 q P) (.node (o31v0 q P) .nil .nil) .nil) (.node (o23v0 q P) .nil .nil)) (.node (o11v1 q P) (.node (o19v0 q P) .nil .nil) (.node (o27v0 q P) .nil .nil))) (.node (o5v0 q P) (.node (o9v0 q P) (.node (o17v0 q P) .nil .nil) (.node (o25v0 q P) .nil .nil)) (.node (o13v0 q P) (.node (o21v0 q P) .nil .nil) (.node (o29v0 q P) .nil .nil)))) (.node (o2v0 q P) (.node (o4v0 q P) (.node (o8v0 q P) (.node (o16v0 q P) .nil .nil) (.node (o24v0 q P) .nil .nil)) (.node (o12v0 q P) (.node (o20v0 q P) .nil .nil) (.node (o28v0 q P) .nil .nil))) (.node (o6v0 q P) (.node (o10v0 q P) (.node (o18v0 q P) .nil .nil) (.node (o26v0 q P) .nil .nil)) (.node (o14v0 q P) (.node (o22v0 q P) .nil .nil) (.node (o30v0 q P) .nil .nil)))))
noncomputable def o3v1 (q : Program) (P : Params) : Obj := { cls := (.type "dict"), dict := none, data := .dict ⟨[de P [95,95,110,97,109,101,95,95] 165 (vs [99,112,121,51,49,51,46,115,116,114,105,110,103,112,114,101,112] 381), de P [95,95,100,111,99,95,95] 166 .none, de P [95,95,112,97,99,107,97,103,101,95,95] 167 .none, de P [95,95,108,111,97,100,101,114,95,95] 168 (.builtin "__main__.__loader__#opaque"), de P [95,95,115,112,101,99,95,95] 169 .none, de P [95,95,97,110,110,111,116,97,116,105,111,110,115,95,95] 170 (.ref 6), de P [95,95,98,117,105,108,116,105,110,115,95,95] 171 (.ref 4), de P [95,95,102,105,108,101,95,95] 173 (vs [47,99,108,97,105,109,47,99,117,116,46,112,121] 172), de P [95,95,99,97,99,104,101,100,95,95] 174 .none, de P [95,115,114,101] 275 (.ref 12), de P [70,108,97,103,115] 332 (.ref 36), de P [80,97,114,115,101,70,108,97,103,115] 340 (.ref 43), de P [95,85,110,107,110,111,119,110] 369 (.ref 60), de P [85,78,75,78,79,87,78] 370 (.ref 66), de P [95,103,101,116,95,110,97,109,101,95,105,110,102,111] 380 (.ref 73)]⟩ 15, slots := ⟨[]⟩ }
noncomputable def o29v1 (q : Program) (P : Params) : Obj := { cls := .none, dict := none, data := .fields ⟨[(.int 4 0), (.int 0 0), (.ref 42), (.int 10 0), (.int 0 0), (.ref 49), (.int 15 0), (.int 0 0), (.ref 72)]⟩, slots := ⟨[]⟩ }
noncomputable def o32v0 (q : Program) (P : Params) : Obj := { cls := (.type "list"), dict := none, data := .seq ⟨[(.int 14 287), (.int 4 288), (.int 0 289), (.int 8 290), (.int 4294967295 291), (.int 24 292), (.int 5 293), (.int 0 294), (.int 4294967295 295), (.int 2 296), (.int 1 297), (.int 16 298), (.int 70 299), (.int 16 300), (.int 76 301), (.int 16 302), (.int 65 303), (.int 16 304), (.int 71 305), (.int 16 306), (.int 83 307), (.int 16 308), (.int 32 309), (.int 16 310), (.int 40 311), (.int 17 312), (.int 0 313), (.int 24 314), (.int 6 315), (.int 0 316), (.int 4294967295 317), (.int 20 318), (.int 41 319), (.int 1 320), (.int 17 321), (.int 1 322), (.int 16 323), (.int 41 324), (.int 1 325)]⟩ 0, slots := ⟨[]⟩ }
noncomputable def o33v0 (q : Program) (P : Params) : Obj := { cls := (.type "dict"), dict := none, data := .dict ⟨[de P [102,108,97,103,115] 327 (.int 1 328)]⟩ 1, slots := ⟨[]⟩ }
noncomputable def o34v0 (q : Program) (P : Params) : Obj := { cls := (.type "tuple"), dict := none, data := .seq ⟨[.none, (vs [102,108,97,103,115] 330)]⟩ 0, slots := ⟨[]⟩ }
noncomputable def o35v0 (q : Program) (P : Params) : Obj := { cls := (.type "tuple"), dict := none, data := .seq ⟨[(.int 14 0), (.int 4 0), (.int 0 0), (.int 8 0), (.int 4294967295 0), (.int 24 0), (.int 5 0), (.int 0 0), (.int 4294967295 0), (.int 2 0), (.int 1 0), (.int 16 0), (.int 70 0), (.int 16 0), (.int 76 0), (.int 16 0), (.int 65 0), (.int 16 0), (.int 71 0), (.int 16 0), (.int 83 0), (.int 16 0), (.int 32 0), (.int 16 0), (.int 40 0), (.int 17 0), (.int 0 0), (.int 24 0), (.int 6 0), (.int 0 0), (.int 4294967295 0), (.int 20 0), (.int 41 0), (.int 1 0), (.int 17 0), (.int 1 0), (.int 16 0), (.int 41 0), (.int 1 0)]⟩ 0, slots := ⟨[]⟩ }
noncomputable def o36v0 (q : Program) (P : Params) : Obj := { cls := (.type "re.Pattern"), dict := none, data := .fields ⟨[(.bytes ⟨[46,42,70,76,65,71,83,32,92,40,40,63,80,60,102,108,97,103,115,62,91,94,92,41,93,42,41,92,41]⟩ 285), (.int 0 331), (.int 1 0), (.ref 33), (.ref 34), (.ref 35), (.int 1 0)]⟩, slots := ⟨[]⟩ }
noncomputable def o37v0 (q : Program) (P : Params) : Obj := { cls := (.type "tuple"), dict := none, data := .seq ⟨[]⟩ 0, slots := ⟨[]⟩ }
noncomputable def o38v0 (q : Program) (P : Params) : Obj := { cls := .none, dict := none, data := .fields ⟨[]⟩, slots := ⟨[]⟩ }
noncomputable def o39v0 (q : Program) (P : Params) : Obj := { cls := (.type "tuple"), dict := none, data := .seq ⟨[(vs [114,101,115,112] 336), (vs [109,111] 337)]⟩ 0, slots := ⟨[]⟩ }
noncomputable def o40v0 (q : Program) (P : Params) : Obj := { cls := (.type "tuple"), dict := none, data := .seq ⟨[]⟩ 0, slots := ⟨[]⟩ }
noncomputable def o41v0 (q : Program) (P : Params) : Obj := { cls := .none, dict := none, data := .func { name := ⟨⟨[80,97,114,115,101,70,108,97,103,115]⟩⟩, qualname := ⟨⟨[80,97,114,115,101,70,108,97,103,115]⟩⟩, params := fArgs (stAt q 3), body := .stmts (fBody (stAt q 3)), scope := fScope (stAt q 3), globals := 0, closure := [], defaults := .none, kwdefaults := .none, doc := .none, pyModule := .none, annotations := none, code := .none, closureTuple := .none, builtins := 0 }, slots := ⟨[]⟩ }
noncomputable def o42v0 (q : Program) (P : Params) : Obj := { cls := (.type "code"), dict := none, data := .fields ⟨[(vs [80,97,114,115,101,70,108,97,103,115] 333), (vs [80,97,114,115,101,70,108,97,103,115] 334), (vs [47,99,108,97,105,109,47,99,117,116,46,112,121] 335), (.int 4 0), (.int 1 0), (.int 0 0), (.int 0 0), (.int 3 0), (.ref 37), (.bool true), (.int 276 0), (.ref 38), .none, (.ref 39), (.ref 40), (.ref 41), (.int 338 0), (.int 4 0), (vs [47,99,108,97,105,109,47,99,117,116,46,112,121] 339)]⟩, slots := ⟨[]⟩ }
noncomputable def o43v0 (q : Program) (P : Params) : Obj := { cls := (.type "function"), dict := none, data := .func { name := ⟨⟨[80,97,114,115,101,70,108,97,103,115]⟩⟩, qualname := ⟨⟨[80,97,114,115,101,70,108,97,103,115]⟩⟩, params := fArgs (stAt q 3), body := .stmts (fBody (stAt q 3)), scope := fScope (stAt q 3), globals := 3, closure := [], defaults := .none, kwdefaults := .none, doc := .none, pyModule := (vs [99,112,121,51,49,51,46,105,109,97,112,108,105,98] 282), annotations := none, code := (.ref 42), closureTuple := .none, builtins := 0 }, slots := ⟨[]⟩ }
noncomputable def o44v0 (q : Program) (P : Params) : Obj := { cls := (.type "tuple"), dict := none, data := .seq ⟨[]⟩ 0, slots := ⟨[]⟩ }
noncomputable def o45v0 (q : Program) (P : Params) : Obj := { cls := (.type "builtin_function_or_method"), dict := none, data := .fields ⟨[(.builtin "type.__prepare__"), (.type "type")]⟩, slots := ⟨[]⟩ }
noncomputable def o46v0 (q : Program) (P : Params) : Obj := { cls := (.type "dict"), dict := none, data := .dict ⟨[de P [95,95,109,111,100,117,108,101,95,95] 350 (vs [99,112,121,51,49,51,46,100,105,115] 341), de P [95,95,113,117,97,108,110,97,109,101,95,95] 352 (vs [95,85,110,107,110,111,119,110] 351), de P [95,95,102,105,114,115,116,108,105,110,101,110,111,95,95] 354 (.int 10 353), de P [95,95,114,101,112,114,95,95] 361 (.ref 57), de P [95,95,115,116,97,116,105,99,95,97,116,116,114,105,98,117,116,101,115,95,95] 362 (.ref 58)]⟩ 5, slots := ⟨[]⟩ }
noncomputable def o47v0 (q : Program) (P : Params) : Obj := { cls := (.type "tuple"), dict := none, data := .seq ⟨[]⟩ 0, slots := ⟨[]⟩ }
noncomputable def o48v0 (q : Program) (P : Params) : Obj := { cls := .none, dict := none, data := .fields ⟨[(.int 12 0), (.int 4 0), (.ref 56)]⟩, slots := ⟨[]⟩ }
noncomputable def o49v0 (q : Program) (P : Params) : Obj := { cls := (.type "code"), dict := none, data := .fields ⟨[(vs [95,85,110,107,110,111,119,110] 345), (vs [95,85,110,107,110,111,119,110] 346), (vs [47,99,108,97,105,109,47,99,117,116,46,112,121] 347), (.int 10 0), (.int 0 0), (.int 0 0), (.int 0 0), (.int 0 0), (.ref 47), (.bool false), (.int 276 0), (.ref 48), .none, .none, .none, .none, (.int 348 0), (.int 10 0), (vs [47,99,108,97,105,109,47,99,117,116,46,112,121] 349)]⟩, slots := ⟨[]⟩ }
noncomputable def o50v0 (q : Program) (P : Params) : Obj := { cls := (.type "frame"), dict := none, data := .plain, slots := ⟨[(some (.ref 49)), (some (.ref 3)), (some (.ref 46)), none, (some (vs [99,112,121,51,49,51,46,100,105,115] 341)), none, (some (.ref 0))]⟩ }
noncomputable def o51v0 (q : Program) (P : Params) : Obj := { cls := (.type "tuple"), dict := none, data := .seq ⟨[]⟩ 0, slots := ⟨[]⟩ }
noncomputable def o52v0 (q : Program) (P : Params) : Obj := { cls := .none, dict := none, data := .fields ⟨[]⟩, slots := ⟨[]⟩ }
noncomputable def o53v0 (q : Program) (P : Params) : Obj := { cls := (.type "tuple"), dict := none, data := .seq ⟨[(vs [115,101,108,102] 358)]⟩ 0, slots := ⟨[]⟩ }
noncomputable def o54v0 (q : Program) (P : Params) : Obj := { cls := (.type "tuple"), dict := none, data := .seq ⟨[]⟩ 0, slots := ⟨[]⟩ }
noncomputable def o55v0 (q : Program) (P : Params) : Obj := { cls := .none, dict := none, data := .func { name := ⟨⟨[95,95,114,101,112,114,95,95]⟩⟩, qualname := ⟨⟨[95,85,110,107,110,111,119,110,46,95,95,114,101,112,114,95,95]⟩⟩, params := fArgs (clsFn (stAt q 5)), body := .stmts (fBody (clsFn (stAt q 5))), scope := fScope (clsFn (stAt q 5)), globals := 0, closure := [], defaults := .none, kwdefaults := .none, doc := .none, pyModule := .none, annotations := none, code := .none, closureTuple := .none, builtins := 0 }, slots := ⟨[]⟩ }
noncomputable def o56v0 (q : Program) (P : Params) : Obj := { cls := (.type "code"), dict := none, data := .fields ⟨[(vs [95,95,114,101,112,114,95,95] 355), (vs [95,85,110,107,110,111,119,110,46,95,95,114,101,112,114,95,95] 356), (vs [47,99,108,97,105,109,47,99,117,116,46,112,121] 357), (.int 12 0), (.int 1 0), (.int 0 0), (.int 0 0), (.int 3 0), (.ref 51), (.bool true), (.int 276 0), (.ref 52), .none, (.ref 53), (.ref 54), (.ref 55), (.int 359 0), (.int 12 0), (vs [47,99,108,97,105,109,47,99,117,116,46,112,121] 360)]⟩, slots := ⟨[]⟩ }
noncomputable def o57v0 (q : Program) (P : Params) : Obj := { cls := (.type "function"), dict := none, data := .func { name := ⟨⟨[95,95,114,101,112,114,95,95]⟩⟩, qualname := ⟨⟨[95,85,110,107,110,111,119,110,46,95,95,114,101,112,114,95,95]⟩⟩, params := fArgs (clsFn (stAt q 5)), body := .stmts (fBody (clsFn (stAt q 5))), scope := fScope (clsFn (stAt q 5)), globals := 3, closure := [], defaults := .none, kwdefaults := .none, doc := .none, pyModule := (vs [99,112,121,51,49,51,46,100,105,115] 341), annotations := none, code := (.ref 56), closureTuple := .none, builtins := 0 }, slots := ⟨[]⟩ }
noncomputable def o58v0 (q : Program) (P : Params) : Obj := { cls := (.type "tuple"), dict := none, data := .seq ⟨[]⟩ 0, slots := ⟨[]⟩ }
noncomputable def o59v0 (q : Program) (P : Params) : Obj := { cls := (.type "dict"), dict := none, data := .dict ⟨[de P [95,95,109,111,100,117,108,101,95,95] 350 (vs [99,112,121,51,49,51,46,100,105,115] 341), de P [95,95,102,105,114,115,116,108,105,110,101,110,111,95,95] 354 (.int 10 353), de P [95,95,114,101,112,114,95,95] 361 (.ref 57), de P [95,95,115,116,97,116,105,99,95,97,116,116,114,105,98,117,116,101,115,95,95] 362 (.ref 58), de P [95,95,100,105,99,116,95,95] 364 (.ref 61), de P [95,95,119,101,97,107,114,101,102,95,95] 366 (.ref 62), de P [95,95,100,111,99,95,95] 367 .none]⟩ 4, slots := ⟨[]⟩ }
noncomputable def o60v0 (q : Program) (P : Params) : Obj := { cls := (.type "type"), dict := none, data := .cls { name := ⟨⟨[95,85,110,107,110,111,119,110]⟩⟩, bases := [(.type "object")], mro := [(.ref 60), (.type "object")], ns := 59, qualname := ⟨⟨[95,85,110,107,110,111,119,110]⟩⟩, hasDict := true, slotNames := [], subclasses := [], abstract := false, collection := none, hasDel := false }, slots := ⟨[none, none, (some (vs [95,85,110,107,110,111,119,110] 343)), (some (vs [95,85,110,107,110,111,119,110] 351)), (some (.builtin "object.__new__")), (some (.bool true))]⟩ }
noncomputable def o61v0 (q : Program) (P : Params) : Obj := { cls := (.type "getset_descriptor"), dict := none, data := .fields ⟨[(vs [95,95,100,105,99,116,95,95] 363), (.ref 60), (.builtin "function.__dict__"), (.builtin "function.__dict__#set")]⟩, slots := ⟨[]⟩ }
noncomputable def o62v0 (q : Program) (P : Params) : Obj := { cls := (.type "getset_descriptor"), dict := none, data := .fields ⟨[(vs [95,95,119,101,97,107,114,101,102,95,95] 365), (.ref 60), (.builtin "ExceptionGroup.__weakref__"), .none]⟩, slots := ⟨[]⟩ }
noncomputable def o63v0 (q : Program) (P : Params) : Obj := { cls := (.type "super"), dict := none, data := .fields ⟨[(.ref 60), (.ref 60), (.ref 60)]⟩, slots := ⟨[]⟩ }
noncomputable def o64v0 (q : Program) (P : Params) : Obj := { cls := (.type "builtin_function_or_method"), dict := none, data := .fields ⟨[(.builtin "object.__init_subclass__"), (.ref 60)]⟩, slots := ⟨[]⟩ }
noncomputable def o65v0 (q : Program) (P : Params) : Obj := { cls := (.type "dict"), dict := none, data := .dict ⟨[]⟩ 0, slots := ⟨[]⟩ }
noncomputable def o66v0 (q : Program) (P : Params) : Obj := { cls := (.ref 60), dict := (some 65), data := .plain, slots := ⟨[]⟩ }
noncomputable def o67v0 (q : Program) (P : Params) : Obj := { cls := (.type "tuple"), dict := none, data := .seq ⟨[]⟩ 0, slots := ⟨[]⟩ }
noncomputable def o68v0 (q : Program) (P : Params) : Obj := { cls := .none, dict := none, data := .fields ⟨[]⟩, slots := ⟨[]⟩ }
noncomputable def o69v0 (q : Program) (P : Params) : Obj := { cls := (.type "tuple"), dict := none, data := .seq ⟨[(vs [110,97,109,101,95,105,110,100,101,120] 374), (vs [103,101,116,95,110,97,109,101] 375), (vs [101,120,116,114,97,105,110,102,111] 376), (vs [97,114,103,118,97,108] 377)]⟩ 0, slots := ⟨[]⟩ }
noncomputable def o70v0 (q : Program) (P : Params) : Obj := { cls := (.type "tuple"), dict := none, data := .seq ⟨[]⟩ 0, slots := ⟨[]⟩ }
noncomputable def o71v0 (q : Program) (P : Params) : Obj := { cls := .none, dict := none, data := .func { name := ⟨⟨[95,103,101,116,95,110,97,109,101,95,105,110,102,111]⟩⟩, qualname := ⟨⟨[95,103,101,116,95,110,97,109,101,95,105,110,102,111]⟩⟩, params := fArgs (stAt q 7), body := .stmts (fBody (stAt q 7)), scope := fScope (stAt q 7), globals := 0, closure := [], defaults := .none, kwdefaults := .none, doc := .none, pyModule := .none, annotations := none, code := .none, closureTuple := .none, builtins := 0 }, slots := ⟨[]⟩ }
noncomputable def o72v0 (q : Program) (P : Params) : Obj := { cls := (.type "code"), dict := none, data := .fields ⟨[(vs [95,103,101,116,95,110,97,109,101,95,105,110,102,111] 371), (vs [95,103,101,116,95,110,97,109,101,95,105,110,102,111] 372), (vs [47,99,108,97,105,109,47,99,117,116,46,112,121] 373), (.int 15 0), (.int 2 0), (.int 0 0), (.int 0 0), (.int 11 0), (.ref 67), (.bool true), (.int 276 0), (.ref 68), .none, (.ref 69), (.ref 70), (.ref 71), (.int 378 0), (.int 15 0), (vs [47,99,108,97,105,109,47,99,117,116,46,112,121] 379)]⟩, slots := ⟨[]⟩ }
noncomputable def o73v0 (q : Program) (P : Params) : Obj := { cls := (.type "function"), dict := none, data := .func { name := ⟨⟨[95,103,101,116,95,110,97,109,101,95,105,110,102,111]⟩⟩, qualname := ⟨⟨[95,103,101,116,95,110,97,109,101,95,105,110,102,111]⟩⟩, params := fArgs (stAt q 7), body := .stmts (fBody (stAt q 7)), scope := fScope (stAt q 7), globals := 3, closure := [], defaults := .none, kwdefaults := .none, doc := .none, pyModule := (vs [99,112,121,51,49,51,46,100,105,115] 341), annotations := none, code := (.ref 72), closureTuple := .none, builtins := 0 }, slots := ⟨[]⟩ }
noncomputable def tr_7 (q : Program) (P : Params) : BT := (.node (o0v0 q P) (.node (o1v0 q P) (.node (o3v1 q P) (.node (o7v0 q P) (.node (o15v0 q P) (.node (o31v0 q P) (.node (o63v0 q P) .nil .nil) .nil) (.node (o47v0 q P) .nil .nil)) (.node (o23v0 q P) (.node (o39v0 q P) (.node (o71v0 q P) .nil .nil) .nil) (.node (o55v0 q P) .nil .nil))) (.node (o11v1 q P) (.node (o19v0 q P) (.node (o35v0 q P) (.node (o67v0 q P) .nil .nil) .nil) (.node (o51v0 q P) .nil .nil)) (.node (o27v0 q P) (.node (o43v0 q P) .nil .nil) (.node (o59v0 q P) .nil .nil)))) (.node (o5v0 q P) (.node (o9v0 q P) (.node (o17v0 q P) (.node (o33v0 q P) (.node (o65v0 q P) .nil .nil) .nil) (.node (o49v0 q P) .nil .nil)) (.node (o25v0 q P) (.node (o41v0 q P) (.node (o73v0 q P) .nil .nil) .nil) (.node (o57v0 q P) .nil .nil))) (.node (o13v0 q P) (.node (o21v0 q P) (.node (o37v0 q P) (.node (o69v0 q P) .nil .nil) .nil) (.node (o53v0 q P) .nil .nil)) (.node (o29v1 q P) (.node (o45v0 q P) .nil .nil) (.node (o61v0 q P) .nil .nil))))) (.node (o2v0 q P) (.node (o4v0 q P) (.node (o8v0 q P) (.node (o16v0 q P) (.node (o32v0 q P) (.node (o64v0 q P) .nil .nil) .nil) (.node (o48v0 q P) .nil .nil)) (.node (o24v0 q P) (.node (o40v0 q P) (.node (o72v0 q P) .nil .nil) .nil) (.node (o56v0 q P) .nil .nil))) (.node (o12v0 q P) (.node (o20v0 q P) (.node (o36v0 q P) (.node (o68v0 q P) .nil .nil) .nil) (.node (o52v0 q P) .nil .nil)) (.node (o28v0 q P) (.node (o44v0 q P) .nil .nil) (.node (o60v0 q P) .nil .nil)))) (.node (o6v0 q P) (.node (o10v0 q P) (.node (o18v0 q P) (.node (o34v0 q P) (.node (o66v0 q P) .nil .nil) .nil) (.node (o50v0 q P) .nil .nil)) (.node (o26v0 q P) (.node (o42v0 q P) .nil .nil) (.node (o58v0 q P) .nil .nil))) (.node (o14v0 q P) (.node (o22v0 q P) (.node (o38v0 q P) (.node (o70v0 q P) .nil .nil) .nil) (.node (o54v0 q P) .nil .nil)) (.node (o30v0 q P) (.node (o46v0 q P) .nil .nil) (.node (o62v0 q P) .nil .nil))))))
noncomputable def o3v2 (q : Program) (P : Params) : Obj := { cls := (.type "dict"), dict := none, data := .dict ⟨[de P [95,95,110,97,109,101,95,95] 165 (vs [99,112,121,51,49,51,46,115,116,114,105,110,103,112,114,101,112] 381), de P [95,95,100,111,99,95,95] 166 .none, de P [95,95,112,97,99,107,97,103,101,95,95] 167 .none, de P [95,95,108,111,97,100,101,114,95,95] 168 (.builtin "__main__.__loader__#opaque"), de P [95,95,115,112,101,99,95,95] 169 .none, de P [95,95,97,110,110,111,116,97,116,105,111,110,115,95,95] 170 (.ref 6), de P [95,95,98,117,105,108,116,105,110,115,95,95] 171 (.ref 4), de P [95,95,102,105,108,101,95,95] 173 (vs [47,99,108,97,105,109,47,99,117,116,46,112,121] 172), de P [95,95,99,97,99,104,101,100,95,95] 174 .none, de P [95,115,114,101] 275 (.ref 12), de P [70,108,97,103,115] 332 (.ref 36), de P [80,97,114,115,101,70,108,97,103,115] 340 (.ref 43), de P [95,85,110,107,110,111,119,110] 369 (.ref 60), de P [85,78,75,78,79,87,78] 370 (.ref 66), de P [95,103,101,116,95,110,97,109,101,95,105,110,102,111] 380 (.ref 73), de P [98,49,95,115,101,116] 442 (.ref 81)]⟩ 16, slots := ⟨[]⟩ }
noncomputable def o74v0 (q : Program) (P : Params) : Obj := { cls := (.type "list"), dict := none, data := .seq ⟨[(.int 173 383), (.int 847 384), (.int 6150 385), (.int 6155 386), (.int 6156 387), (.int 6157 388), (.int 8203 389), (.int 8204 390), (.int 8205 391), (.int 8288 392), (.int 65279 393)]⟩ 0, slots := ⟨[]⟩ }
noncomputable def o75v0 (q : Program) (P : Params) : Obj := { cls := (.type "range"), dict := none, data := .fields ⟨[(.int 65024 394), (.int 65040 395), (.int 1 396)]⟩, slots := ⟨[]⟩ }
noncomputable def o76v0 (q : Program) (P : Params) : Obj := { cls := (.type "list"), dict := none, data := .seq ⟨[(.int 65024 399), (.int 65025 400), (.int 65026 401), (.int 65027 402), (.int 65028 403), (.int 65029 404), (.int 65030 405), (.int 65031 406), (.int 65032 407), (.int 65033 408), (.int 65034 409), (.int 65035 410), (.int 65036 411), (.int 65037 412), (.int 65038 413), (.int 65039 414)]⟩ 18, slots := ⟨[]⟩ }
noncomputable def o77v0 (q : Program) (P : Params) : Obj := { cls := (.type "range_iterator"), dict := none, data := .fields ⟨[(.int 65040 0), (.int 0 0), (.int 1 0)]⟩, slots := ⟨[]⟩ }
noncomputable def o78v0 (q : Program) (P : Params) : Obj := { cls := (.type "tuple"), dict := none, data := .seq ⟨[]⟩ 0, slots := ⟨[]⟩ }
noncomputable def o79v0 (q : Program) (P : Params) : Obj := { cls := (.type "StopIteration"), dict := none, data := .fields ⟨[(.ref 78), .none, .none, .none, (.bool false), .none]⟩, slots := ⟨[]⟩ }
noncomputable def o80v0 (q : Program) (P : Params) : Obj := { cls := (.type "list"), dict := none, data := .seq ⟨[(.int 173 383), (.int 847 384), (.int 6150 385), (.int 6155 386), (.int 6156 387), (.int 6157 388), (.int 8203 389), (.int 8204 390), (.int 8205 391), (.int 8288 392), (.int 65279 393), (.int 65024 399), (.int 65025 400), (.int 65026 401), (.int 65027 402), (.int 65028 403), (.int 65029 404), (.int 65030 405), (.int 65031 406), (.int 65032 407), (.int 65033 408), (.int 65034 409), (.int 65035 410), (.int 65036 411), (.int 65037 412), (.int 65038 413), (.int 65039 414)]⟩ 0, slots := ⟨[]⟩ }
noncomputable def o81v0 (q : Program) (P : Params) : Obj := { cls := (.type "set"), dict := none, data := .set ⟨[(65024, (.int 65024 399)), (65025, (.int 65025 400)), (65026, (.int 65026 401)), (65027, (.int 65027 402)), (65028, (.int 65028 403)), (65029, (.int 65029 404)), (6150, (.int 6150 385)), (65030, (.int 65030 405)), (65031, (.int 65031 406)), (65032, (.int 65032 407)), (65033, (.int 65033 408)), (6155, (.int 6155 386)), (6156, (.int 6156 387)), (6157, (.int 6157 388)), (8203, (.int 8203 389)), (8204, (.int 8204 390)), (8205, (.int 8205 391)), (65034, (.int 65034 409)), (65035, (.int 65035 410)), (65036, (.int 65036 411)), (65037, (.int 65037 412)), (65038, (.int 65038 413)), (65039, (.int 65039 414)), (173, (.int 173 383)), (847, (.int 847 384)), (8288, (.int 8288 392)), (65279, (.int 65279 393))]⟩ 29 { mask := 127, place := ⟨[0,1,2,3,4,5,6,7,8,9,10,11,12,13,14,15,16,17,18,19,20,21,22,45,79,96,127]⟩, dummies := ⟨[]⟩, finger := 0, led := !P.followText "set-order", moves := 2, plain := true }, slots := ⟨[]⟩ }
noncomputable def o82v0 (q : Program) (P : Params) : Obj := { cls := (.type "list_iterator"), dict := none, data := .fields ⟨[.none, (.int 27 0)]⟩, slots := ⟨[]⟩ }
noncomputable def o83v0 (q : Program) (P : Params) : Obj := { cls := (.type "tuple"), dict := none, data := .seq ⟨[]⟩ 0, slots := ⟨[]⟩ }
noncomputable def o84v0 (q : Program) (P : Params) : Obj := { cls := (.type "StopIteration"), dict := none, data := .fields ⟨[(.ref 83), .none, .none, .none, (.bool false), .none]⟩, slots := ⟨[]⟩ }
noncomputable def tr_8 (q : Program) (P : Params) : BT := (.node (o0v0 q P) (.node (o1v0 q P) (.node (o3v2 q P) (.node (o7v0 q P) (.node (o15v0 q P) (.node (o31v0 q P) (.node (o63v0 q P) .nil .nil) .nil) (.node (o47v0 q P) (.node (o79v0 q P) .nil .nil) .nil)) (.node (o23v0 q P) (.node (o39v0 q P) (.node (o71v0 q P) .nil .nil) .nil) (.node (o55v0 q P) .nil .nil))) (.node (o11v1 q P) (.node (o19v0 q P) (.node (o35v0 q P) (.node (o67v0 q P) .nil .nil) .nil) (.node (o51v0 q P) (.node (o83v0 q P) .nil .nil) .nil)) (.node (o27v0 q P) (.node (o43v0 q P) (.node (o75v0 q P) .nil .nil) .nil) (.node (o59v0 q P) .nil .nil)))) (.node (o5v0 q P) (.node (o9v0 q P) (.node (o17v0 q P) (.node (o33v0 q P) (.node (o65v0 q P) .nil .nil) .nil) (.node (o49v0 q P) (.node (o81v0 q P) .nil .nil) .nil)) (.node (o25v0 q P) (.node (o41v0 q P) (.node (o73v0 q P) .nil .nil) .nil) (.node (o57v0 q P) .nil .nil))) (.node (o13v0 q P) (.node (o21v0 q P) (.node (o37v0 q P) (.node (o69v0 q P) .nil .nil) .nil) (.node (o53v0 q P) .nil .nil)) (.node (o29v1 q P) (.node (o45v0 q P) (.node (o77v0 q P) .nil .nil) .nil) (.node (o61v0 q P) .nil .nil))))) (.node (o2v0 q P) (.node (o4v0 q P) (.node (o8v0 q P) (.node (o16v0 q P) (.node (o32v0 q P) (.node (o64v0 q P) .nil .nil) .nil) (.node (o48v0 q P) (.node (o80v0 q P) .nil .nil) .nil)) (.node (o24v0 q P) (.node (o40v0 q P) (.node (o72v0 q P) .nil .nil) .nil) (.node (o56v0 q P) .nil .nil))) (.node (o12v0 q P) (.node (o20v0 q P) (.node (o36v0 q P) (.node (o68v0 q P) .nil .nil) .nil) (.node (o52v0 q P) (.node (o84v0 q P) .nil .nil) .nil)) (.node (o28v0 q P) (.node (o44v0 q P) (.node (o76v0 q P) .nil .nil) .nil) (.node (o60v0 q P) .nil .nil)))) (.node (o6v0 q P) (.node (o10v0 q P) (.node (o18v0 q P) (.node (o34v0 q P) (.node (o66v0 q P) .nil .nil) .nil) (.node (o50v0 q P) (.node (o82v0 q P) .nil .nil) .nil)) (.node (o26v0 q P) (.node (o42v0 q P) (.node (o74v0 q P) .nil .nil) .nil) (.node (o58v0 q P) .nil .nil))) (.node (o14v0 q P) (.node (o22v0 q P) (.node (o38v0 q P) (.node (o70v0 q P) .nil .nil) .nil) (.node (o54v0 q P) .nil .nil)) (.node (o30v0 q P) (.node (o46v0 q P) (.node (o78v0 q P) .nil .nil) .nil) (.node (o62v0 q P) .nil .nil))))))
noncomputable def o3v3 (q : Program) (P : Params) : Obj := { cls := (.type "dict"), dict := none, data := .dict ⟨[de P [95,95,110,97,109,101,95,95] 165 (vs [99,112,121,51,49,51,46,115,116,114,105,110,103,112,114,101,112] 381), de P [95,95,100,111,99,95,95] 166 .none, de P [95,95,112,97,99,107,97,103,101,95,95] 167 .none, de P [95,95,108,111,97,100,101,114,95,95] 168 (.builtin "__main__.__loader__#opaque"), de P [95,95,115,112,101,99,95,95] 169 .none, de P [95,95,97,110,110,111,116,97,116,105,111,110,115,95,95] 170 (.ref 6), de P [95,95,98,117,105,108,116,105,110,115,95,95] 171 (.ref 4), de P [95,95,102,105,108,101,95,95] 173 (vs [47,99,108,97,105,109,47,99,117,116,46,112,121] 172), de P [95,95,99,97,99,104,101,100,95,95] 174 .none, de P [95,115,114,101] 275 (.ref 12), de P [70,108,97,103,115] 332 (.ref 36), de P [80,97,114,115,101,70,108,97,103,115] 340 (.ref 43), de P [95,85,110,107,110,111,119,110] 369 (.ref 60), de P [85,78,75,78,79,87,78] 370 (.ref 66), de P [95,103,101,116,95,110,97,109,101,95,105,110,102,111] 380 (.ref 73), de P [98,49,95,115,101,116] 442 (.ref 81), de P [105,110,95,116,97,98,108,101,95,98,49] 449 (.ref 91)]⟩ 17, slots := ⟨[]⟩ }
noncomputable def o29v2 (q : Program) (P : Params) : Obj := { cls := .none, dict := none, data := .fields ⟨[(.int 4 0), (.int 0 0), (.ref 42), (.int 10 0), (.int 0 0), (.ref 49), (.int 15 0), (.int 0 0), (.ref 72), (.int 23 0), (.int 0 0), (.ref 90)]⟩, slots := ⟨[]⟩ }
noncomputable def o85v0 (q : Program) (P : Params) : Obj := { cls := (.type "tuple"), dict := none, data := .seq ⟨[]⟩ 0, slots := ⟨[]⟩ }
noncomputable def o86v0 (q : Program) (P : Params) : Obj := { cls := .none, dict := none, data := .fields ⟨[]⟩, slots := ⟨[]⟩ }
noncomputable def o87v0 (q : Program) (P : Params) : Obj := { cls := (.type "tuple"), dict := none, data := .seq ⟨[(vs [99,111,100,101] 446)]⟩ 0, slots := ⟨[]⟩ }
noncomputable def o88v0 (q : Program) (P : Params) : Obj := { cls := (.type "tuple"), dict := none, data := .seq ⟨[]⟩ 0, slots := ⟨[]⟩ }
noncomputable def o89v0 (q : Program) (P : Params) : Obj := { cls := .none, dict := none, data := .func { name := ⟨⟨[105,110,95,116,97,98,108,101,95,98,49]⟩⟩, qualname := ⟨⟨[105,110,95,116,97,98,108,101,95,98,49]⟩⟩, params := fArgs (stAt q 10), body := .stmts (fBody (stAt q 10)), scope := fScope (stAt q 10), globals := 0, closure := [], defaults := .none, kwdefaults := .none, doc := .none, pyModule := .none, annotations := none, code := .none, closureTuple := .none, builtins := 0 }, slots := ⟨[]⟩ }
noncomputable def o90v0 (q : Program) (P : Params) : Obj := { cls := (.type "code"), dict := none, data := .fields ⟨[(vs [105,110,95,116,97,98,108,101,95,98,49] 443), (vs [105,110,95,116,97,98,108,101,95,98,49] 444), (vs [47,99,108,97,105,109,47,99,117,116,46,112,121] 445), (.int 23 0), (.int 1 0), (.int 0 0), (.int 0 0), (.int 3 0), (.ref 85), (.bool true), (.int 276 0), (.ref 86), .none, (.ref 87), (.ref 88), (.ref 89), (.int 447 0), (.int 23 0), (vs [47,99,108,97,105,109,47,99,117,116,46,112,121] 448)]⟩, slots := ⟨[]⟩ }
noncomputable def o91v0 (q : Program) (P : Params) : Obj := { cls := (.type "function"), dict := none, data := .func { name := ⟨⟨[105,110,95,116,97,98,108,101,95,98,49]⟩⟩, qualname := ⟨⟨[105,110,95,116,97,98,108,101,95,98,49]⟩⟩, params := fArgs (stAt q 10), body := .stmts (fBody (stAt q 10)), scope := fScope (stAt q 10), globals := 3, closure := [], defaults := .none, kwdefaults := .none, doc := .none, pyModule := (vs [99,112,121,51,49,51,46,115,116,114,105,110,103,112,114,101,112] 381), annotations := none, code := (.ref 90), closureTuple := .none, builtins := 0 }, slots := ⟨[]⟩ }
noncomputable def tr_9 (q : Program) (P : Params) : BT := (.node (o0v0 q P) (.node (o1v0 q P) (.node (o3v3 q P) (.node (o7v0 q P) (.node (o15v0 q P) (.node (o31v0 q P) (.node (o63v0 q P) .nil .nil) .nil) (.node (o47v0 q P) (.node (o79v0 q P) .nil .nil) .nil)) (.node (o23v0 q P) (.node (o39v0 q P) (.node (o71v0 q P) .nil .nil) .nil) (.node (o55v0 q P) (.node (o87v0 q P) .nil .nil) .nil))) (.node (o11v1 q P) (.node (o19v0 q P) (.node (o35v0 q P) (.node (o67v0 q P) .nil .nil) .nil) (.node (o51v0 q P) (.node (o83v0 q P) .nil .nil) .nil)) (.node (o27v0 q P) (.node (o43v0 q P) (.node (o75v0 q P) .nil .nil) .nil) (.node (o59v0 q P) (.node (o91v0 q P) .nil .nil) .nil)))) (.node (o5v0 q P) (.node (o9v0 q P) (.node (o17v0 q P) (.node (o33v0 q P) (.node (o65v0 q P) .nil .nil) .nil) (.node (o49v0 q P) (.node (o81v0 q P) .nil .nil) .nil)) (.node (o25v0 q P) (.node (o41v0 q P) (.node (o73v0 q P) .nil .nil) .nil) (.node (o57v0 q P) (.node (o89v0 q P) .nil .nil) .nil))) (.node (o13v0 q P) (.node (o21v0 q P) (.node (o37v0 q P) (.node (o69v0 q P) .nil .nil) .nil) (.node (o53v0 q P) (.node (o85v0 q P) .nil .nil) .nil)) (.node (o29v2 q P) (.node (o45v0 q P) (.node (o77v0 q P) .nil .nil) .nil) (.node (o61v0 q P) .nil .nil))))) (.node (o2v0 q P) (.node (o4v0 q P) (.node (o8v0 q P) (.node (o16v0 q P) (.node (o32v0 q P) (.node (o64v0 q P) .nil .nil) .nil) (.node (o48v0 q P) (.node (o80v0 q P) .nil .nil) .nil)) (.node (o24v0 q P) (.node (o40v0 q P) (.node (o72v0 q P) .nil .nil) .nil) (.node (o56v0 q P) (.node (o88v0 q P) .nil .nil) .nil))) (.node (o12v0 q P) (.node (o20v0 q P) (.node (o36v0 q P) (.node (o68v0 q P) .nil .nil) .nil) (.node (o52v0 q P) (.node (o84v0 q P) .nil .nil) .nil)) (.node (o28v0 q P) (.node (o44v0 q P) (.node (o76v0 q P) .nil .nil) .nil) (.node (o60v0 q P) .nil .nil)))) (.node (o6v0 q P) (.node (o10v0 q P) (.node (o18v0 q P) (.node (o34v0 q P) (.node (o66v0 q P) .nil .nil) .nil) (.node (o50v0 q P) (.node (o82v0 q P) .nil .nil) .nil)) (.node (o26v0 q P) (.node (o42v0 q P) (.node (o74v0 q P) .nil .nil) .nil) (.node (o58v0 q P) (.node (o90v0 q P) .nil .nil) .nil))) (.node (o14v0 q P) (.node (o22v0 q P) (.node (o38v0 q P) (.node (o70v0 q P) .nil .nil) .nil) (.node (o54v0 q P) (.node (o86v0 q P) .nil .nil) .nil)) (.node (o30v0 q P) (.node (o46v0 q P) (.node (o78v0 q P) .nil .nil) .nil) (.node (o62v0 q P) .nil .nil))))))
noncomputable def o3v4 (q : Program) (P : Params) : Obj := { cls := (.type "dict"), dict := none, data := .dict ⟨[de P [95,95,110,97,109,101,95,95] 165 (vs [99,112,121,51,49,51,46,115,116,114,105,110,103,112,114,101,112] 381), de P [95,95,100,111,99,95,95] 166 .none, de P [95,95,112,97,99,107,97,103,101,95,95] 167 .none, de P [95,95,108,111,97,100,101,114,95,95] 168 (.builtin "__main__.__loader__#opaque"), de P [95,95,115,112,101,99,95,95] 169 .none, de P [95,95,97,110,110,111,116,97,116,105,111,110,115,95,95] 170 (.ref 6), de P [95,95,98,117,105,108,116,105,110,115,95,95] 171 (.ref 4), de P [95,95,102,105,108,101,95,95] 173 (vs [47,99,108,97,105,109,47,99,117,116,46,112,121] 172), de P [95,95,99,97,99,104,101,100,95,95] 174 .none, de P [95,115,114,101] 275 (.ref 12), de P [70,108,97,103,115] 332 (.ref 36), de P [80,97,114,115,101,70,108,97,103,115] 340 (.ref 43), de P [95,85,110,107,110,111,119,110] 369 (.ref 60), de P [85,78,75,78,79,87,78] 370 (.ref 66), de P [95,103,101,116,95,110,97,109,101,95,105,110,102,111] 380 (.ref 73), de P [98,49,95,115,101,116] 442 (.ref 81), de P [105,110,95,116,97,98,108,101,95,98,49] 449 (.ref 91), de P [98,51,95,101,120,99,101,112,116,105,111,110,115] 2400 (.ref 92)]⟩ 18, slots := ⟨[]⟩ }
noncomputable def o92v0 (q : Program) (P : Params) : Obj := { cls := (.type "dict"), dict := none, data := .dict ⟨entsAll q⟩ 650, slots := ⟨[]⟩ }
noncomputable def o93v0 (q : Program) (P : Params) : Obj := { cls := (.type "dict"), dict := none, data := .dict ⟨entsOf q 17 17⟩ 17, slots := ⟨[]⟩ }
noncomputable def o94v0 (q : Program) (P : Params) : Obj := { cls := (.type "dict"), dict := none, data := .dict ⟨entsOf q 34 17⟩ 17, slots := ⟨[]⟩ }
noncomputable def o95v0 (q : Program) (P : Params) : Obj := { cls := (.type "dict"), dict := none, data := .dict ⟨entsOf q 51 17⟩ 17, slots := ⟨[]⟩ }
noncomputable def o96v0 (q : Program) (P : Params) : Obj := { cls := (.type "dict"), dict := none, data := .dict ⟨entsOf q 68 17⟩ 17, slots := ⟨[]⟩ }
noncomputable def o97v0 (q : Program) (P : Params) : Obj := { cls := (.type "dict"), dict := none, data := .dict ⟨entsOf q 85 17⟩ 17, slots := ⟨[]⟩ }
noncomputable def o98v0 (q : Program) (P : Params) : Obj := { cls := (.type "dict"), dict := none, data := .dict ⟨entsOf q 102 17⟩ 17, slots := ⟨[]⟩ }
noncomputable def o99v0 (q : Program) (P : Params) : Obj := { cls := (.type "dict"), dict := none, data := .dict ⟨entsOf q 119 17⟩ 17, slots := ⟨[]⟩ }
noncomputable def o100v0 (q : Program) (P : Params) : Obj := { cls := (.type "dict"), dict := none, data := .dict ⟨entsOf q 136 17⟩ 17, slots := ⟨[]⟩ }
noncomputable def o101v0 (q : Program) (P : Params) : Obj := { cls := (.type "dict"), dict := none, data := .dict ⟨entsOf q 153 17⟩ 17, slots := ⟨[]⟩ }
noncomputable def o102v0 (q : Program) (P : Params) : Obj := { cls := (.type "dict"), dict := none, data := .dict ⟨entsOf q 170 17⟩ 17, slots := ⟨[]⟩ }
noncomputable def o103v0 (q : Program) (P : Params) : Obj := { cls := (.type "dict"), dict := none, data := .dict ⟨entsOf q 187 17⟩ 17, slots := ⟨[]⟩ }
noncomputable def o104v0 (q : Program) (P : Params) : Obj := { cls := (.type "dict"), dict := none, data := .dict ⟨entsOf q 204 17⟩ 17, slots := ⟨[]⟩ }
noncomputable def o105v0 (q : Program) (P : Params) : Obj := { cls := (.type "dict"), dict := none, data := .dict ⟨entsOf q 221 17⟩ 17, slots := ⟨[]⟩ }
noncomputable def o106v0 (q : Program) (P : Params) : Obj := { cls := (.type "dict"), dict := none, data := .dict ⟨entsOf q 238 17⟩ 17, slots := ⟨[]⟩ }
noncomputable def o107v0 (q : Program) (P : Params) : Obj := { cls := (.type "dict"), dict := none, data := .dict ⟨entsOf q 255 17⟩ 17, slots := ⟨[]⟩ }
noncomputable def o108v0 (q : Program) (P : Params) : Obj := { cls := (.type "dict"), dict := none, data := .dict ⟨entsOf q 272 17⟩ 17, slots := ⟨[]⟩ }
noncomputable def o109v0 (q : Program) (P : Params) : Obj := { cls := (.type "dict"), dict := none, data := .dict ⟨entsOf q 289 17⟩ 17, slots := ⟨[]⟩ }
noncomputable def o110v0 (q : Program) (P : Params) : Obj := { cls := (.type "dict"), dict := none, data := .dict ⟨entsOf q 306 17⟩ 17, slots := ⟨[]⟩ }
noncomputable def o111v0 (q : Program) (P : Params) : Obj := { cls := (.type "dict"), dict := none, data := .dict ⟨entsOf q 323 17⟩ 17, slots := ⟨[]⟩ }
noncomputable def o112v0 (q : Program) (P : Params) : Obj := { cls := (.type "dict"), dict := none, data := .dict ⟨entsOf q 340 17⟩ 17, slots := ⟨[]⟩ }
noncomputable def o113v0 (q : Program) (P : Params) : Obj := { cls := (.type "dict"), dict := none, data := .dict ⟨entsOf q 357 17⟩ 17, slots := ⟨[]⟩ }
noncomputable def o114v0 (q : Program) (P : Params) : Obj := { cls := (.type "dict"), dict := none, data := .dict ⟨entsOf q 374 17⟩ 17, slots := ⟨[]⟩ }
noncomputable def o115v0 (q : Program) (P : Params) : Obj := { cls := (.type "dict"), dict := none, data := .dict ⟨entsOf q 391 17⟩ 17, slots := ⟨[]⟩ }
noncomputable def o116v0 (q : Program) (P : Params) : Obj := { cls := (.type "dict"), dict := none, data := .dict ⟨entsOf q 408 17⟩ 17, slots := ⟨[]⟩ }
noncomputable def o117v0 (q : Program) (P : Params) : Obj := { cls := (.type "dict"), dict := none, data := .dict ⟨entsOf q 425 17⟩ 17, slots := ⟨[]⟩ }
noncomputable def o118v0 (q : Program) (P : Params) : Obj := { cls := (.type "dict"), dict := none, data := .dict ⟨entsOf q 442 17⟩ 17, slots := ⟨[]⟩ }
noncomputable def o119v0 (q : Program) (P : Params) : Obj := { cls := (.type "dict"), dict := none, data := .dict ⟨entsOf q 459 17⟩ 17, slots := ⟨[]⟩ }
noncomputable def o120v0 (q : Program) (P : Params) : Obj := { cls := (.type "dict"), dict := none, data := .dict ⟨entsOf q 476 17⟩ 17, slots := ⟨[]⟩ }
noncomputable def o121v0 (q : Program) (P : Params) : Obj := { cls := (.type "dict"), dict := none, data := .dict ⟨entsOf q 493 17⟩ 17, slots := ⟨[]⟩ }
noncomputable def o122v0 (q : Program) (P : Params) : Obj := { cls := (.type "dict"), dict := none, data := .dict ⟨entsOf q 510 17⟩ 17, slots := ⟨[]⟩ }
noncomputable def o123v0 (q : Program) (P : Params) : Obj := { cls := (.type "dict"), dict := none, data := .dict ⟨entsOf q 527 17⟩ 17, slots := ⟨[]⟩ }
noncomputable def o124v0 (q : Program) (P : Params) : Obj := { cls := (.type "dict"), dict := none, data := .dict ⟨entsOf q 544 17⟩ 17, slots := ⟨[]⟩ }
noncomputable def o125v0 (q : Program) (P : Params) : Obj := { cls := (.type "dict"), dict := none, data := .dict ⟨entsOf q 561 17⟩ 17, slots := ⟨[]⟩ }
noncomputable def o126v0 (q : Program) (P : Params) : Obj := { cls := (.type "dict"), dict := none, data := .dict ⟨entsOf q 578 17⟩ 17, slots := ⟨[]⟩ }
noncomputable def o127v0 (q : Program) (P : Params) : Obj := { cls := (.type "dict"), dict := none, data := .dict ⟨entsOf q 595 17⟩ 17, slots := ⟨[]⟩ }
noncomputable def o128v0 (q : Program) (P : Params) : Obj := { cls := (.type "dict"), dict := none, data := .dict ⟨entsOf q 612 17⟩ 17, slots := ⟨[]⟩ }
noncomputable def o129v0 (q : Program) (P : Params) : Obj := { cls := (.type "dict"), dict := none, data := .dict ⟨entsOf q 629 17⟩ 17, slots := ⟨[]⟩ }
noncomputable def o130v0 (q : Program) (P : Params) : Obj := { cls := (.type "dict"), dict := none, data := .dict ⟨entsLast q⟩ 4, slots := ⟨[]⟩ }
noncomputable def tr_10 (q : Program) (P : Params) : BT := (.node (o0v0 q P) (.node (o1v0 q P) (.node (o3v4 q P) (.node (o7v0 q P) (.node (o15v0 q P) (.node (o31v0 q P) (.node (o63v0 q P) (.node (o127v0 q P) .nil .nil) .nil) (.node (o95v0 q P) .nil .nil)) (.node (o47v0 q P) (.node (o79v0 q P) .nil .nil) (.node (o111v0 q P) .nil .nil))) (.node (o23v0 q P) (.node (o39v0 q P) (.node (o71v0 q P) .nil .nil) (.node (o103v0 q P) .nil .nil)) (.node (o55v0 q P) (.node (o87v0 q P) .nil .nil) (.node (o119v0 q P) .nil .nil)))) (.node (o11v1 q P) (.node (o19v0 q P) (.node (o35v0 q P) (.node (o67v0 q P) .nil .nil) (.node (o99v0 q P) .nil .nil)) (.node (o51v0 q P) (.node (o83v0 q P) .nil .nil) (.node (o115v0 q P) .nil .nil))) (.node (o27v0 q P) (.node (o43v0 q P) (.node (o75v0 q P) .nil .nil) (.node (o107v0 q P) .nil .nil)) (.node (o59v0 q P) (.node (o91v0 q P) .nil .nil) (.node (o123v0 q P) .nil .nil))))) (.node (o5v0 q P) (.node (o9v0 q P) (.node (o17v0 q P) (.node (o33v0 q P) (.node (o65v0 q P) (.node (o129v0 q P) .nil .nil) .nil) (.node (o97v0 q P) .nil .nil)) (.node (o49v0 q P) (.node (o81v0 q P) .nil .nil) (.node (o113v0 q P) .nil .nil))) (.node (o25v0 q P) (.node (o41v0 q P) (.node (o73v0 q P) .nil .nil) (.node (o105v0 q P) .nil .nil)) (.node (o57v0 q P) (.node (o89v0 q P) .nil .nil) (.node (o121v0 q P) .nil .nil)))) (.node (o13v0 q P) (.node (o21v0 q P) (.node (o37v0 q P) (.node (o69v0 q P) .nil .nil) (.node (o101v0 q P) .nil .nil)) (.node (o53v0 q P) (.node (o85v0 q P) .nil .nil) (.node (o117v0 q P) .nil .nil))) (.node (o29v2 q P) (.node (o45v0 q P) (.node (o77v0 q P) .nil .nil) (.node (o109v0 q P) .nil .nil)) (.node (o61v0 q P) (.node (o93v0 q P) .nil .nil) (.node (o125v0 q P) .nil .nil)))))) (.node (o2v0 q P) (.node (o4v0 q P) (.node (o8v0 q P) (.node (o16v0 q P) (.node (o32v0 q P) (.node (o64v0 q P) (.node (o128v0 q P) .nil .nil) .nil) (.node (o96v0 q P) .nil .nil)) (.node (o48v0 q P) (.node (o80v0 q P) .nil .nil) (.node (o112v0 q P) .nil .nil))) (.node (o24v0 q P) (.node (o40v0 q P) (.node (o72v0 q P) .nil .nil) (.node (o104v0 q P) .nil .nil)) (.node (o56v0 q P) (.node (o88v0 q P) .nil .nil) (.node (o120v0 q P) .nil .nil)))) (.node (o12v0 q P) (.node (o20v0 q P) (.node (o36v0 q P) (.node (o68v0 q P) .nil .nil) (.node (o100v0 q P) .nil .nil)) (.node (o52v0 q P) (.node (o84v0 q P) .nil .nil) (.node (o116v0 q P) .nil .nil))) (.node (o28v0 q P) (.node (o44v0 q P) (.node (o76v0 q P) .nil .nil) (.node (o108v0 q P) .nil .nil)) (.node (o60v0 q P) (.node (o92v0 q P) .nil .nil) (.node (o124v0 q P) .nil .nil))))) (.node (o6v0 q P) (.node (o10v0 q P) (.node (o18v0 q P) (.node (o34v0 q P) (.node (o66v0 q P) (.node (o130v0 q P) .nil .nil) .nil) (.node (o98v0 q P) .nil .nil)) (.node (o50v0 q P) (.node (o82v0 q P) .nil .nil) (.node (o114v0 q P) .nil .nil))) (.node (o26v0 q P) (.node (o42v0 q P) (.node (o74v0 q P) .nil .nil) (.node (o106v0 q P) .nil .nil)) (.node (o58v0 q P) (.node (o90v0 q P) .nil .nil) (.node (o122v0 q P) .nil .nil)))) (.node (o14v0 q P) (.node (o22v0 q P) (.node (o38v0 q P) (.node (o70v0 q P) .nil .nil) (.node (o102v0 q P) .nil .nil)) (.node (o54v0 q P) (.node (o86v0 q P) .nil .nil) (.node (o118v0 q P) .nil .nil))) (.node (o30v0 q P) (.node (o46v0 q P) (.node (o78v0 q P) .nil .nil) (.node (o110v0 q P) .nil .nil)) (.node (o62v0 q P) (.node (o94v0 q P) .nil .nil) (.node (o126v0 q P) .nil .nil)))))))
noncomputable def o3v5 (q : Program) (P : Params) : Obj := { cls := (.type "dict"), dict := none, data := .dict ⟨[de P [95,95,110,97,109,101,95,95] 165 (vs [99,112,121,51,49,51,46,115,116,114,105,110,103,112,114,101,112] 381), de P [95,95,100,111,99,95,95] 166 .none, de P [95,95,112,97,99,107,97,103,101,95,95] 167 .none, de P [95,95,108,111,97,100,101,114,95,95] 168 (.builtin "__main__.__loader__#opaque"), de P [95,95,115,112,101,99,95,95] 169 .none, de P [95,95,97,110,110,111,116,97,116,105,111,110,115,95,95] 170 (.ref 6), de P [95,95,98,117,105,108,116,105,110,115,95,95] 171 (.ref 4), de P [95,95,102,105,108,101,95,95] 173 (vs [47,99,108,97,105,109,47,99,117,116,46,112,121] 172), de P [95,95,99,97,99,104,101,100,95,95] 174 .none, de P [95,115,114,101] 275 (.ref 12), de P [70,108,97,103,115] 332 (.ref 36), de P [80,97,114,115,101,70,108,97,103,115] 340 (.ref 43), de P [95,85,110,107,110,111,119,110] 369 (.ref 60), de P [85,78,75,78,79,87,78] 370 (.ref 66), de P [95,103,101,116,95,110,97,109,101,95,105,110,102,111] 380 (.ref 73), de P [98,49,95,115,101,116] 442 (.ref 81), de P [105,110,95,116,97,98,108,101,95,98,49] 449 (.ref 91), de P [98,51,95,101,120,99,101,112,116,105,111,110,115] 2400 (.ref 92), de P [109,97,112,95,116,97,98,108,101,95,98,51] 2408 (.ref 137)]⟩ 19, slots := ⟨[]⟩ }
noncomputable def o29v3 (q : Program) (P : Params) : Obj := { cls := .none, dict := none, data := .fields ⟨[(.int 4 0), (.int 0 0), (.ref 42), (.int 10 0), (.int 0 0), (.ref 49), (.int 15 0), (.int 0 0), (.ref 72), (.int 23 0), (.int 0 0), (.ref 90), (.int 26 0), (.int 0 0), (.ref 136)]⟩, slots := ⟨[]⟩ }
noncomputable def o131v0 (q : Program) (P : Params) : Obj := { cls := (.type "tuple"), dict := none, data := .seq ⟨[]⟩ 0, slots := ⟨[]⟩ }
noncomputable def o132v0 (q : Program) (P : Params) : Obj := { cls := .none, dict := none, data := .fields ⟨[]⟩, slots := ⟨[]⟩ }
noncomputable def o133v0 (q : Program) (P : Params) : Obj := { cls := (.type "tuple"), dict := none, data := .seq ⟨[(vs [99,111,100,101] 2404), (vs [114] 2405)]⟩ 0, slots := ⟨[]⟩ }
noncomputable def o134v0 (q : Program) (P : Params) : Obj := { cls := (.type "tuple"), dict := none, data := .seq ⟨[]⟩ 0, slots := ⟨[]⟩ }
noncomputable def o135v0 (q : Program) (P : Params) : Obj := { cls := .none, dict := none, data := .func { name := ⟨⟨[109,97,112,95,116,97,98,108,101,95,98,51]⟩⟩, qualname := ⟨⟨[109,97,112,95,116,97,98,108,101,95,98,51]⟩⟩, params := fArgs (stAt q 12), body := .stmts (fBody (stAt q 12)), scope := fScope (stAt q 12), globals := 0, closure := [], defaults := .none, kwdefaults := .none, doc := .none, pyModule := .none, annotations := none, code := .none, closureTuple := .none, builtins := 0 }, slots := ⟨[]⟩ }
noncomputable def o136v0 (q : Program) (P : Params) : Obj := { cls := (.type "code"), dict := none, data := .fields ⟨[(vs [109,97,112,95,116,97,98,108,101,95,98,51] 2401), (vs [109,97,112,95,116,97,98,108,101,95,98,51] 2402), (vs [47,99,108,97,105,109,47,99,117,116,46,112,121] 2403), (.int 26 0), (.int 1 0), (.int 0 0), (.int 0 0), (.int 3 0), (.ref 131), (.bool true), (.int 276 0), (.ref 132), .none, (.ref 133), (.ref 134), (.ref 135), (.int 2406 0), (.int 26 0), (vs [47,99,108,97,105,109,47,99,117,116,46,112,121] 2407)]⟩, slots := ⟨[]⟩ }
noncomputable def o137v0 (q : Program) (P : Params) : Obj := { cls := (.type "function"), dict := none, data := .func { name := ⟨⟨[109,97,112,95,116,97,98,108,101,95,98,51]⟩⟩, qualname := ⟨⟨[109,97,112,95,116,97,98,108,101,95,98,51]⟩⟩, params := fArgs (stAt q 12), body := .stmts (fBody (stAt q 12)), scope := fScope (stAt q 12), globals := 3, closure := [], defaults := .none, kwdefaults := .none, doc := .none, pyModule := (vs [99,112,121,51,49,51,46,115,116,114,105,110,103,112,114,101,112] 381), annotations := none, code := (.ref 136), closureTuple := .none, builtins := 0 }, slots := ⟨[]⟩ }
noncomputable def tr_11 (q : Program) (P : Params) : BT := (.node (o0v0 q P) (.node (o1v0 q P) (.node (o3v5 q P) (.node (o7v0 q P) (.node (o15v0 q P) (.node (o31v0 q P) (.node (o63v0 q P) (.node (o127v0 q P) .nil .nil) .nil) (.node (o95v0 q P) .nil .nil)) (.node (o47v0 q P) (.node (o79v0 q P) .nil .nil) (.node (o111v0 q P) .nil .nil))) (.node (o23v0 q P) (.node (o39v0 q P) (.node (o71v0 q P) (.node (o135v0 q P) .nil .nil) .nil) (.node (o103v0 q P) .nil .nil)) (.node (o55v0 q P) (.node (o87v0 q P) .nil .nil) (.node (o119v0 q P) .nil .nil)))) (.node (o11v1 q P) (.node (o19v0 q P) (.node (o35v0 q P) (.node (o67v0 q P) (.node (o131v0 q P) .nil .nil) .nil) (.node (o99v0 q P) .nil .nil)) (.node (o51v0 q P) (.node (o83v0 q P) .nil .nil) (.node (o115v0 q P) .nil .nil))) (.node (o27v0 q P) (.node (o43v0 q P) (.node (o75v0 q P) .nil .nil) (.node (o107v0 q P) .nil .nil)) (.node (o59v0 q P) (.node (o91v0 q P) .nil .nil) (.node (o123v0 q P) .nil .nil))))) (.node (o5v0 q P) (.node (o9v0 q P) (.node (o17v0 q P) (.node (o33v0 q P) (.node (o65v0 q P) (.node (o129v0 q P) .nil .nil) .nil) (.node (o97v0 q P) .nil .nil)) (.node (o49v0 q P) (.node (o81v0 q P) .nil .nil) (.node (o113v0 q P) .nil .nil))) (.node (o25v0 q P) (.node (o41v0 q P) (.node (o73v0 q P) (.node (o137v0 q P) .nil .nil) .nil) (.node (o105v0 q P) .nil .nil)) (.node (o57v0 q P) (.node (o89v0 q P) .nil .nil) (.node (o121v0 q P) .nil .nil)))) (.node (o13v0 q P) (.node (o21v0 q P) (.node (o37v0 q P) (.node (o69v0 q P) (.node (o133v0 q P) .nil .nil) .nil) (.node (o101v0 q P) .nil .nil)) (.node (o53v0 q P) (.node (o85v0 q P) .nil .nil) (.node (o117v0 q P) .nil .nil))) (.node (o29v3 q P) (.node (o45v0 q P) (.node (o77v0 q P) .nil .nil) (.node (o109v0 q P) .nil .nil)) (.node (o61v0 q P) (.node (o93v0 q P) .nil .nil) (.node (o125v0 q P) .nil .nil)))))) (.node (o2v0 q P) (.node (o4v0 q P) (.node (o8v0 q P) (.node (o16v0 q P) (.node (o32v0 q P) (.node (o64v0 q P) (.node (o128v0 q P) .nil .nil) .nil) (.node (o96v0 q P) .nil .nil)) (.node (o48v0 q P) (.node (o80v0 q P) .nil .nil) (.node (o112v0 q P) .nil .nil))) (.node (o24v0 q P) (.node (o40v0 q P) (.node (o72v0 q P) (.node (o136v0 q P) .nil .nil) .nil) (.node (o104v0 q P) .nil .nil)) (.node (o56v0 q P) (.node (o88v0 q P) .nil .nil) (.node (o120v0 q P) .nil .nil)))) (.node (o12v0 q P) (.node (o20v0 q P) (.node (o36v0 q P) (.node (o68v0 q P) (.node (o132v0 q P) .nil .nil) .nil) (.node (o100v0 q P) .nil .nil)) (.node (o52v0 q P) (.node (o84v0 q P) .nil .nil) (.node (o116v0 q P) .nil .nil))) (.node (o28v0 q P) (.node (o44v0 q P) (.node (o76v0 q P) .nil .nil) (.node (o108v0 q P) .nil .nil)) (.node (o60v0 q P) (.node (o92v0 q P) .nil .nil) (.node (o124v0 q P) .nil .nil))))) (.node (o6v0 q P) (.node (o10v0 q P) (.node (o18v0 q P) (.node (o34v0 q P) (.node (o66v0 q P) (.node (o130v0 q P) .nil .nil) .nil) (.node (o98v0 q P) .nil .nil)) (.node (o50v0 q P) (.node (o82v0 q P) .nil .nil) (.node (o114v0 q P) .nil .nil))) (.node (o26v0 q P) (.node (o42v0 q P) (.node (o74v0 q P) .nil .nil) (.node (o106v0 q P) .nil .nil)) (.node (o58v0 q P) (.node (o90v0 q P) .nil .nil) (.node (o122v0 q P) .nil .nil)))) (.node (o14v0 q P) (.node (o22v0 q P) (.node (o38v0 q P) (.node (o70v0 q P) (.node (o134v0 q P) .nil .nil) .nil) (.node (o102v0 q P) .nil .nil)) (.node (o54v0 q P) (.node (o86v0 q P) .nil .nil) (.node (o118v0 q P) .nil .nil))) (.node (o30v0 q P) (.node (o46v0 q P) (.node (o78v0 q P) .nil .nil) (.node (o110v0 q P) .nil .nil)) (.node (o62v0 q P) (.node (o94v0 q P) .nil .nil) (.node (o126v0 q P) .nil .nil)))))))
noncomputable def o3v6 (q : Program) (P : Params) : Obj := { cls := (.type "dict"), dict := none, data := .dict ⟨[de P [95,95,110,97,109,101,95,95] 165 (vs [99,112,121,51,49,51,46,115,116,114,105,110,103,112,114,101,112] 381), de P [95,95,100,111,99,95,95] 166 .none, de P [95,95,112,97,99,107,97,103,101,95,95] 167 .none, de P [95,95,108,111,97,100,101,114,95,95] 168 (.builtin "__main__.__loader__#opaque"), de P [95,95,115,112,101,99,95,95] 169 .none, de P [95,95,97,110,110,111,116,97,116,105,111,110,115,95,95] 170 (.ref 6), de P [95,95,98,117,105,108,116,105,110,115,95,95] 171 (.ref 4), de P [95,95,102,105,108,101,95,95] 173 (vs [47,99,108,97,105,109,47,99,117,116,46,112,121] 172), de P [95,95,99,97,99,104,101,100,95,95] 174 .none, de P [95,115,114,101] 275 (.ref 12), de P [70,108,97,103,115] 332 (.ref 36), de P [80,97,114,115,101,70,108,97,103,115] 340 (.ref 43), de P [95,85,110,107,110,111,119,110] 369 (.ref 60), de P [85,78,75,78,79,87,78] 370 (.ref 66), de P [95,103,101,116,95,110,97,109,101,95,105,110,102,111] 380 (.ref 73), de P [98,49,95,115,101,116] 442 (.ref 81), de P [105,110,95,116,97,98,108,101,95,98,49] 449 (.ref 91), de P [98,51,95,101,120,99,101,112,116,105,111,110,115] 2400 (.ref 92), de P [109,97,112,95,116,97,98,108,101,95,98,51] 2408 (.ref 137), de P [99,56,95,115,101,116] 2449 (.ref 151)]⟩ 20, slots := ⟨[]⟩ }
noncomputable def o138v0 (q : Program) (P : Params) : Obj := { cls := (.type "list"), dict := none, data := .seq ⟨[(.int 832 2409), (.int 833 2410), (.int 8206 2411), (.int 8207 2412)]⟩ 0, slots := ⟨[]⟩ }
noncomputable def o139v0 (q : Program) (P : Params) : Obj := { cls := (.type "range"), dict := none, data := .fields ⟨[(.int 8234 2413), (.int 8239 2414), (.int 1 2415)]⟩, slots := ⟨[]⟩ }
noncomputable def o140v0 (q : Program) (P : Params) : Obj := { cls := (.type "list"), dict := none, data := .seq ⟨[(.int 8234 2418), (.int 8235 2419), (.int 8236 2420), (.int 8237 2421), (.int 8238 2422)]⟩ 7, slots := ⟨[]⟩ }
noncomputable def o141v0 (q : Program) (P : Params) : Obj := { cls := (.type "range_iterator"), dict := none, data := .fields ⟨[(.int 8239 0), (.int 0 0), (.int 1 0)]⟩, slots := ⟨[]⟩ }
noncomputable def o142v0 (q : Program) (P : Params) : Obj := { cls := (.type "tuple"), dict := none, data := .seq ⟨[]⟩ 0, slots := ⟨[]⟩ }
noncomputable def o143v0 (q : Program) (P : Params) : Obj := { cls := (.type "StopIteration"), dict := none, data := .fields ⟨[(.ref 142), .none, .none, .none, (.bool false), .none]⟩, slots := ⟨[]⟩ }
noncomputable def o144v0 (q : Program) (P : Params) : Obj := { cls := (.type "list"), dict := none, data := .seq ⟨[(.int 832 2409), (.int 833 2410), (.int 8206 2411), (.int 8207 2412), (.int 8234 2418), (.int 8235 2419), (.int 8236 2420), (.int 8237 2421), (.int 8238 2422)]⟩ 0, slots := ⟨[]⟩ }
noncomputable def o145v0 (q : Program) (P : Params) : Obj := { cls := (.type "range"), dict := none, data := .fields ⟨[(.int 8298 2423), (.int 8304 2424), (.int 1 2425)]⟩, slots := ⟨[]⟩ }
noncomputable def o146v0 (q : Program) (P : Params) : Obj := { cls := (.type "list"), dict := none, data := .seq ⟨[(.int 8298 2428), (.int 8299 2429), (.int 8300 2430), (.int 8301 2431), (.int 8302 2432), (.int 8303 2433)]⟩ 8, slots := ⟨[]⟩ }
noncomputable def o147v0 (q : Program) (P : Params) : Obj := { cls := (.type "range_iterator"), dict := none, data := .fields ⟨[(.int 8304 0), (.int 0 0), (.int 1 0)]⟩, slots := ⟨[]⟩ }
noncomputable def o148v0 (q : Program) (P : Params) : Obj := { cls := (.type "tuple"), dict := none, data := .seq ⟨[]⟩ 0, slots := ⟨[]⟩ }
noncomputable def o149v0 (q : Program) (P : Params) : Obj := { cls := (.type "StopIteration"), dict := none, data := .fields ⟨[(.ref 148), .none, .none, .none, (.bool false), .none]⟩, slots := ⟨[]⟩ }
noncomputable def o150v0 (q : Program) (P : Params) : Obj := { cls := (.type "list"), dict := none, data := .seq ⟨[(.int 832 2409), (.int 833 2410), (.int 8206 2411), (.int 8207 2412), (.int 8234 2418), (.int 8235 2419), (.int 8236 2420), (.int 8237 2421), (.int 8238 2422), (.int 8298 2428), (.int 8299 2429), (.int 8300 2430), (.int 8301 2431), (.int 8302 2432), (.int 8303 2433)]⟩ 0, slots := ⟨[]⟩ }
noncomputable def o151v0 (q : Program) (P : Params) : Obj := { cls := (.type "set"), dict := none, data := .set ⟨[(832, (.int 832 2409)), (833, (.int 833 2410)), (8234, (.int 8234 2418)), (8235, (.int 8235 2419)), (8236, (.int 8236 2420)), (8237, (.int 8237 2421)), (8206, (.int 8206 2411)), (8207, (.int 8207 2412)), (8238, (.int 8238 2422)), (8298, (.int 8298 2428)), (8299, (.int 8299 2429)), (8300, (.int 8300 2430)), (8301, (.int 8301 2431)), (8302, (.int 8302 2432)), (8303, (.int 8303 2433))]⟩ 16 { mask := 31, place := ⟨[0,1,10,11,12,13,14,15,16,17,18,19,20,21,22]⟩, dummies := ⟨[]⟩, finger := 0, led := !P.followText "set-order", moves := 1, plain := true }, slots := ⟨[]⟩ }
noncomputable def o152v0 (q : Program) (P : Params) : Obj := { cls := (.type "list_iterator"), dict := none, data := .fields ⟨[.none, (.int 15 0)]⟩, slots := ⟨[]⟩ }
noncomputable def o153v0 (q : Program) (P : Params) : Obj := { cls := (.type "tuple"), dict := none, data := .seq ⟨[]⟩ 0, slots := ⟨[]⟩ }
noncomputable def o154v0 (q : Program) (P : Params) : Obj := { cls := (.type "StopIteration"), dict := none, data := .fields ⟨[(.ref 153), .none, .none, .none, (.bool false), .none]⟩, slots := ⟨[]⟩ }
noncomputable def tr_12 (q : Program) (P : Params) : BT := (.node (o0v0 q P) (.node (o1v0 q P) (.node (o3v6 q P) (.node (o7v0 q P) (.node (o15v0 q P) (.node (o31v0 q P) (.node (o63v0 q P) (.node (o127v0 q P) .nil .nil) .nil) (.node (o95v0 q P) .nil .nil)) (.node (o47v0 q P) (.node (o79v0 q P) (.node (o143v0 q P) .nil .nil) .nil) (.node (o111v0 q P) .nil .nil))) (.node (o23v0 q P) (.node (o39v0 q P) (.node (o71v0 q P) (.node (o135v0 q P) .nil .nil) .nil) (.node (o103v0 q P) .nil .nil)) (.node (o55v0 q P) (.node (o87v0 q P) (.node (o151v0 q P) .nil .nil) .nil) (.node (o119v0 q P) .nil .nil)))) (.node (o11v1 q P) (.node (o19v0 q P) (.node (o35v0 q P) (.node (o67v0 q P) (.node (o131v0 q P) .nil .nil) .nil) (.node (o99v0 q P) .nil .nil)) (.node (o51v0 q P) (.node (o83v0 q P) (.node (o147v0 q P) .nil .nil) .nil) (.node (o115v0 q P) .nil .nil))) (.node (o27v0 q P) (.node (o43v0 q P) (.node (o75v0 q P) (.node (o139v0 q P) .nil .nil) .nil) (.node (o107v0 q P) .nil .nil)) (.node (o59v0 q P) (.node (o91v0 q P) .nil .nil) (.node (o123v0 q P) .nil .nil))))) (.node (o5v0 q P) (.node (o9v0 q P) (.node (o17v0 q P) (.node (o33v0 q P) (.node (o65v0 q P) (.node (o129v0 q P) .nil .nil) .nil) (.node (o97v0 q P) .nil .nil)) (.node (o49v0 q P) (.node (o81v0 q P) (.node (o145v0 q P) .nil .nil) .nil) (.node (o113v0 q P) .nil .nil))) (.node (o25v0 q P) (.node (o41v0 q P) (.node (o73v0 q P) (.node (o137v0 q P) .nil .nil) .nil) (.node (o105v0 q P) .nil .nil)) (.node (o57v0 q P) (.node (o89v0 q P) (.node (o153v0 q P) .nil .nil) .nil) (.node (o121v0 q P) .nil .nil)))) (.node (o13v0 q P) (.node (o21v0 q P) (.node (o37v0 q P) (.node (o69v0 q P) (.node (o133v0 q P) .nil .nil) .nil) (.node (o101v0 q P) .nil .nil)) (.node (o53v0 q P) (.node (o85v0 q P) (.node (o149v0 q P) .nil .nil) .nil) (.node (o117v0 q P) .nil .nil))) (.node (o29v3 q P) (.node (o45v0 q P) (.node (o77v0 q P) (.node (o141v0 q P) .nil .nil) .nil) (.node (o109v0 q P) .nil .nil)) (.node (o61v0 q P) (.node (o93v0 q P) .nil .nil) (.node (o125v0 q P) .nil .nil)))))) (.node (o2v0 q P) (.node (o4v0 q P) (.node (o8v0 q P) (.node (o16v0 q P) (.node (o32v0 q P) (.node (o64v0 q P) (.node (o128v0 q P) .nil .nil) .nil) (.node (o96v0 q P) .nil .nil)) (.node (o48v0 q P) (.node (o80v0 q P) (.node (o144v0 q P) .nil .nil) .nil) (.node (o112v0 q P) .nil .nil))) (.node (o24v0 q P) (.node (o40v0 q P) (.node (o72v0 q P) (.node (o136v0 q P) .nil .nil) .nil) (.node (o104v0 q P) .nil .nil)) (.node (o56v0 q P) (.node (o88v0 q P) (.node (o152v0 q P) .nil .nil) .nil) (.node (o120v0 q P) .nil .nil)))) (.node (o12v0 q P) (.node (o20v0 q P) (.node (o36v0 q P) (.node (o68v0 q P) (.node (o132v0 q P) .nil .nil) .nil) (.node (o100v0 q P) .nil .nil)) (.node (o52v0 q P) (.node (o84v0 q P) (.node (o148v0 q P) .nil .nil) .nil) (.node (o116v0 q P) .nil .nil))) (.node (o28v0 q P) (.node (o44v0 q P) (.node (o76v0 q P) (.node (o140v0 q P) .nil .nil) .nil) (.node (o108v0 q P) .nil .nil)) (.node (o60v0 q P) (.node (o92v0 q P) .nil .nil) (.node (o124v0 q P) .nil .nil))))) (.node (o6v0 q P) (.node (o10v0 q P) (.node (o18v0 q P) (.node (o34v0 q P) (.node (o66v0 q P) (.node (o130v0 q P) .nil .nil) .nil) (.node (o98v0 q P) .nil .nil)) (.node (o50v0 q P) (.node (o82v0 q P) (.node (o146v0 q P) .nil .nil) .nil) (.node (o114v0 q P) .nil .nil))) (.node (o26v0 q P) (.node (o42v0 q P) (.node (o74v0 q P) (.node (o138v0 q P) .nil .nil) .nil) (.node (o106v0 q P) .nil .nil)) (.node (o58v0 q P) (.node (o90v0 q P) (.node (o154v0 q P) .nil .nil) .nil) (.node (o122v0 q P) .nil .nil)))) (.node (o14v0 q P) (.node (o22v0 q P) (.node (o38v0 q P) (.node (o70v0 q P) (.node (o134v0 q P) .nil .nil) .nil) (.node (o102v0 q P) .nil .nil)) (.node (o54v0 q P) (.node (o86v0 q P) (.node (o150v0 q P) .nil .nil) .nil) (.node (o118v0 q P) .nil .nil))) (.node (o30v0 q P) (.node (o46v0 q P) (.node (o78v0 q P) (.node (o142v0 q P) .nil .nil) .nil) (.node (o110v0 q P) .nil .nil)) (.node (o62v0 q P) (.node (o94v0 q P) .nil .nil) (.node (o126v0 q P) .nil .nil)))))))
noncomputable def o3v7 (q : Program) (P : Params) : Obj := { cls := (.type "dict"), dict := none, data := .dict ⟨[de P [95,95,110,97,109,101,95,95] 165 (vs [108,97,119,95,107,117,48,48,52,51,95,48,49] 2457), de P [95,95,100,111,99,95,95] 166 .none, de P [95,95,112,97,99,107,97,103,101,95,95] 167 .none, de P [95,95,108,111,97,100,101,114,95,95] 168 (.builtin "__main__.__loader__#opaque"), de P [95,95,115,112,101,99,95,95] 169 .none, de P [95,95,97,110,110,111,116,97,116,105,111,110,115,95,95] 170 (.ref 6), de P [95,95,98,117,105,108,116,105,110,115,95,95] 171 (.ref 4), de P [95,95,102,105,108,101,95,95] 173 (vs [47,99,108,97,105,109,47,99,117,116,46,112,121] 172), de P [95,95,99,97,99,104,101,100,95,95] 174 .none, de P [95,115,114,101] 275 (.ref 12), de P [70,108,97,103,115] 332 (.ref 36), de P [80,97,114,115,101,70,108,97,103,115] 340 (.ref 43), de P [95,85,110,107,110,111,119,110] 369 (.ref 60), de P [85,78,75,78,79,87,78] 370 (.ref 66), de P [95,103,101,116,95,110,97,109,101,95,105,110,102,111] 380 (.ref 73), de P [98,49,95,115,101,116] 442 (.ref 81), de P [105,110,95,116,97,98,108,101,95,98,49] 449 (.ref 91), de P [98,51,95,101,120,99,101,112,116,105,111,110,115] 2400 (.ref 92), de P [109,97,112,95,116,97,98,108,101,95,98,51] 2408 (.ref 137), de P [99,56,95,115,101,116] 2449 (.ref 151), de P [105,110,95,116,97,98,108,101,95,99,56] 2456 (.ref 161), de P [95,108,97,119,95,100,114,97,119,110] 2464 (.ref 166), de P [95,108,97,119,95,116,121,112,101,100] 2470 (.ref 171), de P [95,108,97,119,95,115,101,114,118,101,114] 2476 (.ref 176), de P [95,108,97,119,95,109,101,101,116] 2486 (.ref 183), de P [95,108,97,119,95,109,101,101,116,115] 2496 (.ref 190), de P [95,108,97,119,95,107,101,101,112,115] 2502 (.ref 195), de P [95,108,97,119,95,98,114,111,107,101,110] 2508 (.ref 200), de P [95,108,97,119,95,101,120,112,108,111,114,101,100] 2514 (.ref 205), de P [108,97,119] 2520 (.ref 210)]⟩ 30, slots := ⟨[]⟩ }
noncomputable def o29v4 (q : Program) (P : Params) : Obj := { cls := .none, dict := none, data := .fields ⟨[(.int 4 0), (.int 0 0), (.ref 42), (.int 10 0), (.int 0 0), (.ref 49), (.int 15 0), (.int 0 0), (.ref 72), (.int 23 0), (.int 0 0), (.ref 90), (.int 26 0), (.int 0 0), (.ref 136), (.int 32 0), (.int 0 0), (.ref 160), (.int 35 0), (.int 0 0), (.ref 165), (.int 40 0), (.int 0 0), (.ref 170), (.int 50 0), (.int 0 0), (.ref 175), (.int 65 0), (.int 0 0), (.ref 182), (.int 71 0), (.int 0 0), (.ref 189), (.int 78 0), (.int 0 0), (.ref 194), (.int 80 0), (.int 0 0), (.ref 199), (.int 82 0), (.int 0 0), (.ref 204), (.int 104 0), (.int 0 0), (.ref 209)]⟩, slots := ⟨[]⟩ }
noncomputable def o155v0 (q : Program) (P : Params) : Obj := { cls := (.type "tuple"), dict := none, data := .seq ⟨[]⟩ 0, slots := ⟨[]⟩ }
noncomputable def o156v0 (q : Program) (P : Params) : Obj := { cls := .none, dict := none, data := .fields ⟨[]⟩, slots := ⟨[]⟩ }
noncomputable def o157v0 (q : Program) (P : Params) : Obj := { cls := (.type "tuple"), dict := none, data := .seq ⟨[(vs [99,111,100,101] 2453)]⟩ 0, slots := ⟨[]⟩ }
noncomputable def o158v0 (q : Program) (P : Params) : Obj := { cls := (.type "tuple"), dict := none, data := .seq ⟨[]⟩ 0, slots := ⟨[]⟩ }
noncomputable def o159v0 (q : Program) (P : Params) : Obj := { cls := .none, dict := none, data := .func { name := ⟨⟨[105,110,95,116,97,98,108,101,95,99,56]⟩⟩, qualname := ⟨⟨[105,110,95,116,97,98,108,101,95,99,56]⟩⟩, params := fArgs (stAt q 14), body := .stmts (fBody (stAt q 14)), scope := fScope (stAt q 14), globals := 0, closure := [], defaults := .none, kwdefaults := .none, doc := .none, pyModule := .none, annotations := none, code := .none, closureTuple := .none, builtins := 0 }, slots := ⟨[]⟩ }
noncomputable def o160v0 (q : Program) (P : Params) : Obj := { cls := (.type "code"), dict := none, data := .fields ⟨[(vs [105,110,95,116,97,98,108,101,95,99,56] 2450), (vs [105,110,95,116,97,98,108,101,95,99,56] 2451), (vs [47,99,108,97,105,109,47,99,117,116,46,112,121] 2452), (.int 32 0), (.int 1 0), (.int 0 0), (.int 0 0), (.int 3 0), (.ref 155), (.bool true), (.int 276 0), (.ref 156), .none, (.ref 157), (.ref 158), (.ref 159), (.int 2454 0), (.int 32 0), (vs [47,99,108,97,105,109,47,99,117,116,46,112,121] 2455)]⟩, slots := ⟨[]⟩ }
noncomputable def o161v0 (q : Program) (P : Params) : Obj := { cls := (.type "function"), dict := none, data := .func { name := ⟨⟨[105,110,95,116,97,98,108,101,95,99,56]⟩⟩, qualname := ⟨⟨[105,110,95,116,97,98,108,101,95,99,56]⟩⟩, params := fArgs (stAt q 14), body := .stmts (fBody (stAt q 14)), scope := fScope (stAt q 14), globals := 3, closure := [], defaults := .none, kwdefaults := .none, doc := .none, pyModule := (vs [99,112,121,51,49,51,46,115,116,114,105,110,103,112,114,101,112] 381), annotations := none, code := (.ref 160), closureTuple := .none, builtins := 0 }, slots := ⟨[]⟩ }
noncomputable def o162v0 (q : Program) (P : Params) : Obj := { cls := (.type "tuple"), dict := none, data := .seq ⟨[]⟩ 0, slots := ⟨[]⟩ }
noncomputable def o163v0 (q : Program) (P : Params) : Obj := { cls := .none, dict := none, data := .fields ⟨[]⟩, slots := ⟨[]⟩ }
noncomputable def o164v0 (q : Program) (P : Params) : Obj := { cls := .none, dict := none, data := .func { name := ⟨⟨[95,108,97,119,95,100,114,97,119,110]⟩⟩, qualname := ⟨⟨[95,108,97,119,95,100,114,97,119,110]⟩⟩, params := fArgs (stAt q 16), body := .stmts (fBody (stAt q 16)), scope := fScope (stAt q 16), globals := 0, closure := [], defaults := .none, kwdefaults := .none, doc := .none, pyModule := .none, annotations := none, code := .none, closureTuple := .none, builtins := 0 }, slots := ⟨[]⟩ }
noncomputable def o165v0 (q : Program) (P : Params) : Obj := { cls := (.type "code"), dict := none, data := .fields ⟨[(vs [95,108,97,119,95,100,114,97,119,110] 2459), (vs [95,108,97,119,95,100,114,97,119,110] 2460), (vs [47,99,108,97,105,109,47,99,117,116,46,112,121] 2461), (.int 35 0), (.int 1 0), (.int 0 0), (.int 0 0), (.int 3 0), (.ref 162), (.bool true), (.int 276 0), (.ref 163), .none, .none, .none, (.ref 164), (.int 2462 0), (.int 35 0), (vs [47,99,108,97,105,109,47,99,117,116,46,112,121] 2463)]⟩, slots := ⟨[]⟩ }
noncomputable def o166v0 (q : Program) (P : Params) : Obj := { cls := (.type "function"), dict := none, data := .func { name := ⟨⟨[95,108,97,119,95,100,114,97,119,110]⟩⟩, qualname := ⟨⟨[95,108,97,119,95,100,114,97,119,110]⟩⟩, params := fArgs (stAt q 16), body := .stmts (fBody (stAt q 16)), scope := fScope (stAt q 16), globals := 3, closure := [], defaults := .none, kwdefaults := .none, doc := .none, pyModule := (vs [108,97,119,95,107,117,48,48,52,51,95,48,49] 2457), annotations := none, code := (.ref 165), closureTuple := .none, builtins := 0 }, slots := ⟨[]⟩ }
noncomputable def o167v0 (q : Program) (P : Params) : Obj := { cls := (.type "tuple"), dict := none, data := .seq ⟨[]⟩ 0, slots := ⟨[]⟩ }
noncomputable def o168v0 (q : Program) (P : Params) : Obj := { cls := .none, dict := none, data := .fields ⟨[]⟩, slots := ⟨[]⟩ }
noncomputable def o169v0 (q : Program) (P : Params) : Obj := { cls := .none, dict := none, data := .func { name := ⟨⟨[95,108,97,119,95,116,121,112,101,100]⟩⟩, qualname := ⟨⟨[95,108,97,119,95,116,121,112,101,100]⟩⟩, params := fArgs (stAt q 17), body := .stmts (fBody (stAt q 17)), scope := fScope (stAt q 17), globals := 0, closure := [], defaults := .none, kwdefaults := .none, doc := .none, pyModule := .none, annotations := none, code := .none, closureTuple := .none, builtins := 0 }, slots := ⟨[]⟩ }
noncomputable def o170v0 (q : Program) (P : Params) : Obj := { cls := (.type "code"), dict := none, data := .fields ⟨[(vs [95,108,97,119,95,116,121,112,101,100] 2465), (vs [95,108,97,119,95,116,121,112,101,100] 2466), (vs [47,99,108,97,105,109,47,99,117,116,46,112,121] 2467), (.int 40 0), (.int 3 0), (.int 0 0), (.int 0 0), (.int 3 0), (.ref 167), (.bool true), (.int 276 0), (.ref 168), .none, .none, .none, (.ref 169), (.int 2468 0), (.int 40 0), (vs [47,99,108,97,105,109,47,99,117,116,46,112,121] 2469)]⟩, slots := ⟨[]⟩ }
noncomputable def o171v0 (q : Program) (P : Params) : Obj := { cls := (.type "function"), dict := none, data := .func { name := ⟨⟨[95,108,97,119,95,116,121,112,101,100]⟩⟩, qualname := ⟨⟨[95,108,97,119,95,116,121,112,101,100]⟩⟩, params := fArgs (stAt q 17), body := .stmts (fBody (stAt q 17)), scope := fScope (stAt q 17), globals := 3, closure := [], defaults := .none, kwdefaults := .none, doc := .none, pyModule := (vs [108,97,119,95,107,117,48,48,52,51,95,48,49] 2457), annotations := none, code := (.ref 170), closureTuple := .none, builtins := 0 }, slots := ⟨[]⟩ }
noncomputable def o172v0 (q : Program) (P : Params) : Obj := { cls := (.type "tuple"), dict := none, data := .seq ⟨[]⟩ 0, slots := ⟨[]⟩ }
noncomputable def o173v0 (q : Program) (P : Params) : Obj := { cls := .none, dict := none, data := .fields ⟨[]⟩, slots := ⟨[]⟩ }
noncomputable def o174v0 (q : Program) (P : Params) : Obj := { cls := .none, dict := none, data := .func { name := ⟨⟨[95,108,97,119,95,115,101,114,118,101,114]⟩⟩, qualname := ⟨⟨[95,108,97,119,95,115,101,114,118,101,114]⟩⟩, params := fArgs (stAt q 18), body := .stmts (fBody (stAt q 18)), scope := fScope (stAt q 18), globals := 0, closure := [], defaults := .none, kwdefaults := .none, doc := .none, pyModule := .none, annotations := none, code := .none, closureTuple := .none, builtins := 0 }, slots := ⟨[]⟩ }
noncomputable def o175v0 (q : Program) (P : Params) : Obj := { cls := (.type "code"), dict := none, data := .fields ⟨[(vs [95,108,97,119,95,115,101,114,118,101,114] 2471), (vs [95,108,97,119,95,115,101,114,118,101,114] 2472), (vs [47,99,108,97,105,109,47,99,117,116,46,112,121] 2473), (.int 50 0), (.int 3 0), (.int 0 0), (.int 0 0), (.int 3 0), (.ref 172), (.bool true), (.int 276 0), (.ref 173), .none, .none, .none, (.ref 174), (.int 2474 0), (.int 50 0), (vs [47,99,108,97,105,109,47,99,117,116,46,112,121] 2475)]⟩, slots := ⟨[]⟩ }
noncomputable def o176v0 (q : Program) (P : Params) : Obj := { cls := (.type "function"), dict := none, data := .func { name := ⟨⟨[95,108,97,119,95,115,101,114,118,101,114]⟩⟩, qualname := ⟨⟨[95,108,97,119,95,115,101,114,118,101,114]⟩⟩, params := fArgs (stAt q 18), body := .stmts (fBody (stAt q 18)), scope := fScope (stAt q 18), globals := 3, closure := [], defaults := .none, kwdefaults := .none, doc := .none, pyModule := (vs [108,97,119,95,107,117,48,48,52,51,95,48,49] 2457), annotations := none, code := (.ref 175), closureTuple := .none, builtins := 0 }, slots := ⟨[]⟩ }
noncomputable def o177v0 (q : Program) (P : Params) : Obj := { cls := (.type "tuple"), dict := none, data := .seq ⟨[]⟩ 0, slots := ⟨[]⟩ }
noncomputable def o178v0 (q : Program) (P : Params) : Obj := { cls := .none, dict := none, data := .fields ⟨[]⟩, slots := ⟨[]⟩ }
noncomputable def o179v0 (q : Program) (P : Params) : Obj := { cls := (.type "tuple"), dict := none, data := .seq ⟨[(vs [108,101,102,116] 2480), (vs [109,97,105,108,115] 2481), (vs [119,104,111,108,101] 2482), (vs [109,97,105,108] 2483)]⟩ 0, slots := ⟨[]⟩ }
noncomputable def o180v0 (q : Program) (P : Params) : Obj := { cls := (.type "tuple"), dict := none, data := .seq ⟨[]⟩ 0, slots := ⟨[]⟩ }
noncomputable def o181v0 (q : Program) (P : Params) : Obj := { cls := .none, dict := none, data := .func { name := ⟨⟨[95,108,97,119,95,109,101,101,116]⟩⟩, qualname := ⟨⟨[95,108,97,119,95,109,101,101,116]⟩⟩, params := fArgs (stAt q 19), body := .stmts (fBody (stAt q 19)), scope := fScope (stAt q 19), globals := 0, closure := [], defaults := .none, kwdefaults := .none, doc := .none, pyModule := .none, annotations := none, code := .none, closureTuple := .none, builtins := 0 }, slots := ⟨[]⟩ }
noncomputable def o182v0 (q : Program) (P : Params) : Obj := { cls := (.type "code"), dict := none, data := .fields ⟨[(vs [95,108,97,119,95,109,101,101,116] 2477), (vs [95,108,97,119,95,109,101,101,116] 2478), (vs [47,99,108,97,105,109,47,99,117,116,46,112,121] 2479), (.int 65 0), (.int 2 0), (.int 0 0), (.int 0 0), (.int 3 0), (.ref 177), (.bool true), (.int 276 0), (.ref 178), .none, (.ref 179), (.ref 180), (.ref 181), (.int 2484 0), (.int 65 0), (vs [47,99,108,97,105,109,47,99,117,116,46,112,121] 2485)]⟩, slots := ⟨[]⟩ }
noncomputable def o183v0 (q : Program) (P : Params) : Obj := { cls := (.type "function"), dict := none, data := .func { name := ⟨⟨[95,108,97,119,95,109,101,101,116]⟩⟩, qualname := ⟨⟨[95,108,97,119,95,109,101,101,116]⟩⟩, params := fArgs (stAt q 19), body := .stmts (fBody (stAt q 19)), scope := fScope (stAt q 19), globals := 3, closure := [], defaults := .none, kwdefaults := .none, doc := .none, pyModule := (vs [108,97,119,95,107,117,48,48,52,51,95,48,49] 2457), annotations := none, code := (.ref 182), closureTuple := .none, builtins := 0 }, slots := ⟨[]⟩ }
noncomputable def o184v0 (q : Program) (P : Params) : Obj := { cls := (.type "tuple"), dict := none, data := .seq ⟨[]⟩ 0, slots := ⟨[]⟩ }
noncomputable def o185v0 (q : Program) (P : Params) : Obj := { cls := .none, dict := none, data := .fields ⟨[]⟩, slots := ⟨[]⟩ }
noncomputable def o186v0 (q : Program) (P : Params) : Obj := { cls := (.type "tuple"), dict := none, data := .seq ⟨[(vs [109,97,105,108,115] 2490), (vs [102,111,117,110,100] 2491), (vs [109,97,105,108] 2492), (vs [111,110,101] 2493)]⟩ 0, slots := ⟨[]⟩ }
noncomputable def o187v0 (q : Program) (P : Params) : Obj := { cls := (.type "tuple"), dict := none, data := .seq ⟨[]⟩ 0, slots := ⟨[]⟩ }
noncomputable def o188v0 (q : Program) (P : Params) : Obj := { cls := .none, dict := none, data := .func { name := ⟨⟨[95,108,97,119,95,109,101,101,116,115]⟩⟩, qualname := ⟨⟨[95,108,97,119,95,109,101,101,116,115]⟩⟩, params := fArgs (stAt q 20), body := .stmts (fBody (stAt q 20)), scope := fScope (stAt q 20), globals := 0, closure := [], defaults := .none, kwdefaults := .none, doc := .none, pyModule := .none, annotations := none, code := .none, closureTuple := .none, builtins := 0 }, slots := ⟨[]⟩ }
noncomputable def o189v0 (q : Program) (P : Params) : Obj := { cls := (.type "code"), dict := none, data := .fields ⟨[(vs [95,108,97,119,95,109,101,101,116,115] 2487), (vs [95,108,97,119,95,109,101,101,116,115] 2488), (vs [47,99,108,97,105,109,47,99,117,116,46,112,121] 2489), (.int 71 0), (.int 1 0), (.int 0 0), (.int 0 0), (.int 3 0), (.ref 184), (.bool true), (.int 276 0), (.ref 185), .none, (.ref 186), (.ref 187), (.ref 188), (.int 2494 0), (.int 71 0), (vs [47,99,108,97,105,109,47,99,117,116,46,112,121] 2495)]⟩, slots := ⟨[]⟩ }
noncomputable def o190v0 (q : Program) (P : Params) : Obj := { cls := (.type "function"), dict := none, data := .func { name := ⟨⟨[95,108,97,119,95,109,101,101,116,115]⟩⟩, qualname := ⟨⟨[95,108,97,119,95,109,101,101,116,115]⟩⟩, params := fArgs (stAt q 20), body := .stmts (fBody (stAt q 20)), scope := fScope (stAt q 20), globals := 3, closure := [], defaults := .none, kwdefaults := .none, doc := .none, pyModule := (vs [108,97,119,95,107,117,48,48,52,51,95,48,49] 2457), annotations := none, code := (.ref 189), closureTuple := .none, builtins := 0 }, slots := ⟨[]⟩ }
noncomputable def o191v0 (q : Program) (P : Params) : Obj := { cls := (.type "tuple"), dict := none, data := .seq ⟨[]⟩ 0, slots := ⟨[]⟩ }
noncomputable def o192v0 (q : Program) (P : Params) : Obj := { cls := .none, dict := none, data := .fields ⟨[]⟩, slots := ⟨[]⟩ }
noncomputable def o193v0 (q : Program) (P : Params) : Obj := { cls := .none, dict := none, data := .func { name := ⟨⟨[95,108,97,119,95,107,101,101,112,115]⟩⟩, qualname := ⟨⟨[95,108,97,119,95,107,101,101,112,115]⟩⟩, params := fArgs (stAt q 21), body := .stmts (fBody (stAt q 21)), scope := fScope (stAt q 21), globals := 0, closure := [], defaults := .none, kwdefaults := .none, doc := .none, pyModule := .none, annotations := none, code := .none, closureTuple := .none, builtins := 0 }, slots := ⟨[]⟩ }
noncomputable def o194v0 (q : Program) (P : Params) : Obj := { cls := (.type "code"), dict := none, data := .fields ⟨[(vs [95,108,97,119,95,107,101,101,112,115] 2497), (vs [95,108,97,119,95,107,101,101,112,115] 2498), (vs [47,99,108,97,105,109,47,99,117,116,46,112,121] 2499), (.int 78 0), (.int 2 0), (.int 0 0), (.int 0 0), (.int 3 0), (.ref 191), (.bool true), (.int 276 0), (.ref 192), .none, .none, .none, (.ref 193), (.int 2500 0), (.int 78 0), (vs [47,99,108,97,105,109,47,99,117,116,46,112,121] 2501)]⟩, slots := ⟨[]⟩ }
noncomputable def o195v0 (q : Program) (P : Params) : Obj := { cls := (.type "function"), dict := none, data := .func { name := ⟨⟨[95,108,97,119,95,107,101,101,112,115]⟩⟩, qualname := ⟨⟨[95,108,97,119,95,107,101,101,112,115]⟩⟩, params := fArgs (stAt q 21), body := .stmts (fBody (stAt q 21)), scope := fScope (stAt q 21), globals := 3, closure := [], defaults := .none, kwdefaults := .none, doc := .none, pyModule := (vs [108,97,119,95,107,117,48,48,52,51,95,48,49] 2457), annotations := none, code := (.ref 194), closureTuple := .none, builtins := 0 }, slots := ⟨[]⟩ }
noncomputable def o196v0 (q : Program) (P : Params) : Obj := { cls := (.type "tuple"), dict := none, data := .seq ⟨[]⟩ 0, slots := ⟨[]⟩ }
noncomputable def o197v0 (q : Program) (P : Params) : Obj := { cls := .none, dict := none, data := .fields ⟨[]⟩, slots := ⟨[]⟩ }
noncomputable def o198v0 (q : Program) (P : Params) : Obj := { cls := .none, dict := none, data := .func { name := ⟨⟨[95,108,97,119,95,98,114,111,107,101,110]⟩⟩, qualname := ⟨⟨[95,108,97,119,95,98,114,111,107,101,110]⟩⟩, params := fArgs (stAt q 22), body := .stmts (fBody (stAt q 22)), scope := fScope (stAt q 22), globals := 0, closure := [], defaults := .none, kwdefaults := .none, doc := .none, pyModule := .none, annotations := none, code := .none, closureTuple := .none, builtins := 0 }, slots := ⟨[]⟩ }
noncomputable def o199v0 (q : Program) (P : Params) : Obj := { cls := (.type "code"), dict := none, data := .fields ⟨[(vs [95,108,97,119,95,98,114,111,107,101,110] 2503), (vs [95,108,97,119,95,98,114,111,107,101,110] 2504), (vs [47,99,108,97,105,109,47,99,117,116,46,112,121] 2505), (.int 80 0), (.int 2 0), (.int 0 0), (.int 0 0), (.int 3 0), (.ref 196), (.bool true), (.int 276 0), (.ref 197), .none, .none, .none, (.ref 198), (.int 2506 0), (.int 80 0), (vs [47,99,108,97,105,109,47,99,117,116,46,112,121] 2507)]⟩, slots := ⟨[]⟩ }
noncomputable def o200v0 (q : Program) (P : Params) : Obj := { cls := (.type "function"), dict := none, data := .func { name := ⟨⟨[95,108,97,119,95,98,114,111,107,101,110]⟩⟩, qualname := ⟨⟨[95,108,97,119,95,98,114,111,107,101,110]⟩⟩, params := fArgs (stAt q 22), body := .stmts (fBody (stAt q 22)), scope := fScope (stAt q 22), globals := 3, closure := [], defaults := .none, kwdefaults := .none, doc := .none, pyModule := (vs [108,97,119,95,107,117,48,48,52,51,95,48,49] 2457), annotations := none, code := (.ref 199), closureTuple := .none, builtins := 0 }, slots := ⟨[]⟩ }
noncomputable def o201v0 (q : Program) (P : Params) : Obj := { cls := (.type "tuple"), dict := none, data := .seq ⟨[]⟩ 0, slots := ⟨[]⟩ }
noncomputable def o202v0 (q : Program) (P : Params) : Obj := { cls := .none, dict := none, data := .fields ⟨[]⟩, slots := ⟨[]⟩ }
noncomputable def o203v0 (q : Program) (P : Params) : Obj := { cls := .none, dict := none, data := .func { name := ⟨⟨[95,108,97,119,95,101,120,112,108,111,114,101,100]⟩⟩, qualname := ⟨⟨[95,108,97,119,95,101,120,112,108,111,114,101,100]⟩⟩, params := fArgs (stAt q 23), body := .stmts (fBody (stAt q 23)), scope := fScope (stAt q 23), globals := 0, closure := [], defaults := .none, kwdefaults := .none, doc := .none, pyModule := .none, annotations := none, code := .none, closureTuple := .none, builtins := 0 }, slots := ⟨[]⟩ }
noncomputable def o204v0 (q : Program) (P : Params) : Obj := { cls := (.type "code"), dict := none, data := .fields ⟨[(vs [95,108,97,119,95,101,120,112,108,111,114,101,100] 2509), (vs [95,108,97,119,95,101,120,112,108,111,114,101,100] 2510), (vs [47,99,108,97,105,109,47,99,117,116,46,112,121] 2511), (.int 82 0), (.int 3 0), (.int 0 0), (.int 0 0), (.int 3 0), (.ref 201), (.bool true), (.int 276 0), (.ref 202), .none, .none, .none, (.ref 203), (.int 2512 0), (.int 82 0), (vs [47,99,108,97,105,109,47,99,117,116,46,112,121] 2513)]⟩, slots := ⟨[]⟩ }
noncomputable def o205v0 (q : Program) (P : Params) : Obj := { cls := (.type "function"), dict := none, data := .func { name := ⟨⟨[95,108,97,119,95,101,120,112,108,111,114,101,100]⟩⟩, qualname := ⟨⟨[95,108,97,119,95,101,120,112,108,111,114,101,100]⟩⟩, params := fArgs (stAt q 23), body := .stmts (fBody (stAt q 23)), scope := fScope (stAt q 23), globals := 3, closure := [], defaults := .none, kwdefaults := .none, doc := .none, pyModule := (vs [108,97,119,95,107,117,48,48,52,51,95,48,49] 2457), annotations := none, code := (.ref 204), closureTuple := .none, builtins := 0 }, slots := ⟨[]⟩ }
noncomputable def o206v0 (q : Program) (P : Params) : Obj := { cls := (.type "tuple"), dict := none, data := .seq ⟨[]⟩ 0, slots := ⟨[]⟩ }
noncomputable def o207v0 (q : Program) (P : Params) : Obj := { cls := .none, dict := none, data := .fields ⟨[]⟩, slots := ⟨[]⟩ }
noncomputable def o208v0 (q : Program) (P : Params) : Obj := { cls := .none, dict := none, data := .func { name := ⟨⟨[108,97,119]⟩⟩, qualname := ⟨⟨[108,97,119]⟩⟩, params := fArgs (stAt q 24), body := .stmts (fBody (stAt q 24)), scope := fScope (stAt q 24), globals := 0, closure := [], defaults := .none, kwdefaults := .none, doc := .none, pyModule := .none, annotations := none, code := .none, closureTuple := .none, builtins := 0 }, slots := ⟨[]⟩ }
noncomputable def o209v0 (q : Program) (P : Params) : Obj := { cls := (.type "code"), dict := none, data := .fields ⟨[(vs [108,97,119] 2515), (vs [108,97,119] 2516), (vs [47,99,108,97,105,109,47,99,117,116,46,112,121] 2517), (.int 104 0), (.int 1 0), (.int 0 0), (.int 0 0), (.int 3 0), (.ref 206), (.bool true), (.int 276 0), (.ref 207), .none, .none, .none, (.ref 208), (.int 2518 0), (.int 104 0), (vs [47,99,108,97,105,109,47,99,117,116,46,112,121] 2519)]⟩, slots := ⟨[]⟩ }
noncomputable def o210v0 (q : Program) (P : Params) : Obj := { cls := (.type "function"), dict := none, data := .func { name := ⟨⟨[108,97,119]⟩⟩, qualname := ⟨⟨[108,97,119]⟩⟩, params := fArgs (stAt q 24), body := .stmts (fBody (stAt q 24)), scope := fScope (stAt q 24), globals := 3, closure := [], defaults := .none, kwdefaults := .none, doc := .none, pyModule := (vs [108,97,119,95,107,117,48,48,52,51,95,48,49] 2457), annotations := none, code := (.ref 209), closureTuple := .none, builtins := 0 }, slots := ⟨[]⟩ }
noncomputable def tr_23 (q : Program) (P : Params) : BT := (.node (o0v0 q P) (.node (o1v0 q P) (.node (o3v7 q P) (.node (o7v0 q P) (.node (o15v0 q P) (.node (o31v0 q P) (.node (o63v0 q P) (.node (o127v0 q P) .nil .nil) (.node (o191v0 q P) .nil .nil)) (.node (o95v0 q P) (.node (o159v0 q P) .nil .nil) .nil)) (.node (o47v0 q P) (.node (o79v0 q P) (.node (o143v0 q P) .nil .nil) (.node (o207v0 q P) .nil .nil)) (.node (o111v0 q P) (.node (o175v0 q P) .nil .nil) .nil))) (.node (o23v0 q P) (.node (o39v0 q P) (.node (o71v0 q P) (.node (o135v0 q P) .nil .nil) (.node (o199v0 q P) .nil .nil)) (.node (o103v0 q P) (.node (o167v0 q P) .nil .nil) .nil)) (.node (o55v0 q P) (.node (o87v0 q P) (.node (o151v0 q P) .nil .nil) .nil) (.node (o119v0 q P) (.node (o183v0 q P) .nil .nil) .nil)))) (.node (o11v1 q P) (.node (o19v0 q P) (.node (o35v0 q P) (.node (o67v0 q P) (.node (o131v0 q P) .nil .nil) (.node (o195v0 q P) .nil .nil)) (.node (o99v0 q P) (.node (o163v0 q P) .nil .nil) .nil)) (.node (o51v0 q P) (.node (o83v0 q P) (.node (o147v0 q P) .nil .nil) .nil) (.node (o115v0 q P) (.node (o179v0 q P) .nil .nil) .nil))) (.node (o27v0 q P) (.node (o43v0 q P) (.node (o75v0 q P) (.node (o139v0 q P) .nil .nil) (.node (o203v0 q P) .nil .nil)) (.node (o107v0 q P) (.node (o171v0 q P) .nil .nil) .nil)) (.node (o59v0 q P) (.node (o91v0 q P) (.node (o155v0 q P) .nil .nil) .nil) (.node (o123v0 q P) (.node (o187v0 q P) .nil .nil) .nil))))) (.node (o5v0 q P) (.node (o9v0 q P) (.node (o17v0 q P) (.node (o33v0 q P) (.node (o65v0 q P) (.node (o129v0 q P) .nil .nil) (.node (o193v0 q P) .nil .nil)) (.node (o97v0 q P) (.node (o161v0 q P) .nil .nil) .nil)) (.node (o49v0 q P) (.node (o81v0 q P) (.node (o145v0 q P) .nil .nil) (.node (o209v0 q P) .nil .nil)) (.node (o113v0 q P) (.node (o177v0 q P) .nil .nil) .nil))) (.node (o25v0 q P) (.node (o41v0 q P) (.node (o73v0 q P) (.node (o137v0 q P) .nil .nil) (.node (o201v0 q P) .nil .nil)) (.node (o105v0 q P) (.node (o169v0 q P) .nil .nil) .nil)) (.node (o57v0 q P) (.node (o89v0 q P) (.node (o153v0 q P) .nil .nil) .nil) (.node (o121v0 q P) (.node (o185v0 q P) .nil .nil) .nil)))) (.node (o13v0 q P) (.node (o21v0 q P) (.node (o37v0 q P) (.node (o69v0 q P) (.node (o133v0 q P) .nil .nil) (.node (o197v0 q P) .nil .nil)) (.node (o101v0 q P) (.node (o165v0 q P) .nil .nil) .nil)) (.node (o53v0 q P) (.node (o85v0 q P) (.node (o149v0 q P) .nil .nil) .nil) (.node (o117v0 q P) (.node (o181v0 q P) .nil .nil) .nil))) (.node (o29v4 q P) (.node (o45v0 q P) (.node (o77v0 q P) (.node (o141v0 q P) .nil .nil) (.node (o205v0 q P) .nil .nil)) (.node (o109v0 q P) (.node (o173v0 q P) .nil .nil) .nil)) (.node (o61v0 q P) (.node (o93v0 q P) (.node (o157v0 q P) .nil .nil) .nil) (.node (o125v0 q P) (.node (o189v0 q P) .nil .nil) .nil)))))) (.node (o2v0 q P) (.node (o4v0 q P) (.node (o8v0 q P) (.node (o16v0 q P) (.node (o32v0 q P) (.node (o64v0 q P) (.node (o128v0 q P) .nil .nil) (.node (o192v0 q P) .nil .nil)) (.node (o96v0 q P) (.node (o160v0 q P) .nil .nil) .nil)) (.node (o48v0 q P) (.node (o80v0 q P) (.node (o144v0 q P) .nil .nil) (.node (o208v0 q P) .nil .nil)) (.node (o112v0 q P) (.node (o176v0 q P) .nil .nil) .nil))) (.node (o24v0 q P) (.node (o40v0 q P) (.node (o72v0 q P) (.node (o136v0 q P) .nil .nil) (.node (o200v0 q P) .nil .nil)) (.node (o104v0 q P) (.node (o168v0 q P) .nil .nil) .nil)) (.node (o56v0 q P) (.node (o88v0 q P) (.node (o152v0 q P) .nil .nil) .nil) (.node (o120v0 q P) (.node (o184v0 q P) .nil .nil) .nil)))) (.node (o12v0 q P) (.node (o20v0 q P) (.node (o36v0 q P) (.node (o68v0 q P) (.node (o132v0 q P) .nil .nil) (.node (o196v0 q P) .nil .nil)) (.node (o100v0 q P) (.node (o164v0 q P) .nil .nil) .nil)) (.node (o52v0 q P) (.node (o84v0 q P) (.node (o148v0 q P) .nil .nil) .nil) (.node (o116v0 q P) (.node (o180v0 q P) .nil .nil) .nil))) (.node (o28v0 q P) (.node (o44v0 q P) (.node (o76v0 q P) (.node (o140v0 q P) .nil .nil) (.node (o204v0 q P) .nil .nil)) (.node (o108v0 q P) (.node (o172v0 q P) .nil .nil) .nil)) (.node (o60v0 q P) (.node (o92v0 q P) (.node (o156v0 q P) .nil .nil) .nil) (.node (o124v0 q P) (.node (o188v0 q P) .nil .nil) .nil))))) (.node (o6v0 q P) (.node (o10v0 q P) (.node (o18v0 q P) (.node (o34v0 q P) (.node (o66v0 q P) (.node (o130v0 q P) .nil .nil) (.node (o194v0 q P) .nil .nil)) (.node (o98v0 q P) (.node (o162v0 q P) .nil .nil) .nil)) (.node (o50v0 q P) (.node (o82v0 q P) (.node (o146v0 q P) .nil .nil) (.node (o210v0 q P) .nil .nil)) (.node (o114v0 q P) (.node (o178v0 q P) .nil .nil) .nil))) (.node (o26v0 q P) (.node (o42v0 q P) (.node (o74v0 q P) (.node (o138v0 q P) .nil .nil) (.node (o202v0 q P) .nil .nil)) (.node (o106v0 q P) (.node (o170v0 q P) .nil .nil) .nil)) (.node (o58v0 q P) (.node (o90v0 q P) (.node (o154v0 q P) .nil .nil) .nil) (.node (o122v0 q P) (.node (o186v0 q P) .nil .nil) .nil)))) (.node (o14v0 q P) (.node (o22v0 q P) (.node (o38v0 q P) (.node (o70v0 q P) (.node (o134v0 q P) .nil .nil) (.node (o198v0 q P) .nil .nil)) (.node (o102v0 q P) (.node (o166v0 q P) .nil .nil) .nil)) (.node (o54v0 q P) (.node (o86v0 q P) (.node (o150v0 q P) .nil .nil) .nil) (.node (o118v0 q P) (.node (o182v0 q P) .nil .nil) .nil))) (.node (o30v0 q P) (.node (o46v0 q P) (.node (o78v0 q P) (.node (o142v0 q P) .nil .nil) (.node (o206v0 q P) .nil .nil)) (.node (o110v0 q P) (.node (o174v0 q P) .nil .nil) .nil)) (.node (o62v0 q P) (.node (o94v0 q P) (.node (o158v0 q P) .nil .nil) .nil) (.node (o126v0 q P) (.node (o190v0 q P) .nil .nil) .nil)))))))
noncomputable def tr_f (q : Program) (P : Params) : BT := (.node (o0v0 q P) (.node (o1v0 q P) (.node (o3v7 q P) (.node (o7v0 q P) (.node (o15v0 q P) (.node (o31v0 q P) (.node (o63v0 q P) (.node (o127v0 q P) .nil .nil) (.node (o191v0 q P) .nil .nil)) (.node (o95v0 q P) (.node (o159v0 q P) .nil .nil) .nil)) (.node (o47v0 q P) (.node (o79v0 q P) (.node (o143v0 q P) .nil .nil) (.node (o207v0 q P) .nil .nil)) (.node (o111v0 q P) (.node (o175v0 q P) .nil .nil) .nil))) (.node (o23v0 q P) (.node (o39v0 q P) (.node (o71v0 q P) (.node (o135v0 q P) .nil .nil) (.node (o199v0 q P) .nil .nil)) (.node (o103v0 q P) (.node (o167v0 q P) .nil .nil) .nil)) (.node (o55v0 q P) (.node (o87v0 q P) (.node (o151v0 q P) .nil .nil) .nil) (.node (o119v0 q P) (.node (o183v0 q P) .nil .nil) .nil)))) (.node (o11v1 q P) (.node (o19v0 q P) (.node (o35v0 q P) (.node (o67v0 q P) (.node (o131v0 q P) .nil .nil) (.node (o195v0 q P) .nil .nil)) (.node (o99v0 q P) (.node (o163v0 q P) .nil .nil) .nil)) (.node (o51v0 q P) (.node (o83v0 q P) (.node (o147v0 q P) .nil .nil) .nil) (.node (o115v0 q P) (.node (o179v0 q P) .nil .nil) .nil))) (.node (o27v0 q P) (.node (o43v0 q P) (.node (o75v0 q P) (.node (o139v0 q P) .nil .nil) (.node (o203v0 q P) .nil .nil)) (.node (o107v0 q P) (.node (o171v0 q P) .nil .nil) .nil)) (.node (o59v0 q P) (.node (o91v0 q P) (.node (o155v0 q P) .nil .nil) .nil) (.node (o123v0 q P) (.node (o187v0 q P) .nil .nil) .nil))))) (.node (o5v0 q P) (.node (o9v0 q P) (.node (o17v0 q P) (.node (o33v0 q P) (.node (o65v0 q P) (.node (o129v0 q P) .nil .nil) (.node (o193v0 q P) .nil .nil)) (.node (o97v0 q P) (.node (o161v0 q P) .nil .nil) .nil)) (.node (o49v0 q P) (.node (o81v0 q P) (.node (o145v0 q P) .nil .nil) (.node (o209v0 q P) .nil .nil)) (.node (o113v0 q P) (.node (o177v0 q P) .nil .nil) .nil))) (.node (o25v0 q P) (.node (o41v0 q P) (.node (o73v0 q P) (.node (o137v0 q P) .nil .nil) (.node (o201v0 q P) .nil .nil)) (.node (o105v0 q P) (.node (o169v0 q P) .nil .nil) .nil)) (.node (o57v0 q P) (.node (o89v0 q P) (.node (o153v0 q P) .nil .nil) .nil) (.node (o121v0 q P) (.node (o185v0 q P) .nil .nil) .nil)))) (.node (o13v0 q P) (.node (o21v0 q P) (.node (o37v0 q P) (.node (o69v0 q P) (.node (o133v0 q P) .nil .nil) (.node (o197v0 q P) .nil .nil)) (.node (o101v0 q P) (.node (o165v0 q P) .nil .nil) .nil)) (.node (o53v0 q P) (.node (o85v0 q P) (.node (o149v0 q P) .nil .nil) .nil) (.node (o117v0 q P) (.node (o181v0 q P) .nil .nil) .nil))) (.node (o29v4 q P) (.node (o45v0 q P) (.node (o77v0 q P) (.node (o141v0 q P) .nil .nil) (.node (o205v0 q P) .nil .nil)) (.node (o109v0 q P) (.node (o173v0 q P) .nil .nil) .nil)) (.node (o61v0 q P) (.node (o93v0 q P) (.node (o157v0 q P) .nil .nil) .nil) (.node (o125v0 q P) (.node (o189v0 q P) .nil .nil) .nil)))))) (.node (o2v0 q P) (.node (o4v0 q P) (.node (o8v0 q P) (.node (o16v0 q P) (.node (o32v0 q P) (.node (o64v0 q P) (.node (o128v0 q P) .nil .nil) (.node (o192v0 q P) .nil .nil)) (.node (o96v0 q P) (.node (o160v0 q P) .nil .nil) .nil)) (.node (o48v0 q P) (.node (o80v0 q P) (.node (o144v0 q P) .nil .nil) (.node (o208v0 q P) .nil .nil)) (.node (o112v0 q P) (.node (o176v0 q P) .nil .nil) .nil))) (.node (o24v0 q P) (.node (o40v0 q P) (.node (o72v0 q P) (.node (o136v0 q P) .nil .nil) (.node (o200v0 q P) .nil .nil)) (.node (o104v0 q P) (.node (o168v0 q P) .nil .nil) .nil)) (.node (o56v0 q P) (.node (o88v0 q P) (.node (o152v0 q P) .nil .nil) .nil) (.node (o120v0 q P) (.node (o184v0 q P) .nil .nil) .nil)))) (.node (o12v0 q P) (.node (o20v0 q P) (.node (o36v0 q P) (.node (o68v0 q P) (.node (o132v0 q P) .nil .nil) (.node (o196v0 q P) .nil .nil)) (.node (o100v0 q P) (.node (o164v0 q P) .nil .nil) .nil)) (.node (o52v0 q P) (.node (o84v0 q P) (.node (o148v0 q P) .nil .nil) .nil) (.node (o116v0 q P) (.node (o180v0 q P) .nil .nil) .nil))) (.node (o28v0 q P) (.node (o44v0 q P) (.node (o76v0 q P) (.node (o140v0 q P) .nil .nil) (.node (o204v0 q P) .nil .nil)) (.node (o108v0 q P) (.node (o172v0 q P) .nil .nil) .nil)) (.node (o60v0 q P) (.node (o92v0 q P) (.node (o156v0 q P) .nil .nil) .nil) (.node (o124v0 q P) (.node (o188v0 q P) .nil .nil) .nil))))) (.node (o6v0 q P) (.node (o10v0 q P) (.node (o18v0 q P) (.node (o34v0 q P) (.node (o66v0 q P) (.node (o130v0 q P) .nil .nil) (.node (o194v0 q P) .nil .nil)) (.node (o98v0 q P) (.node (o162v0 q P) .nil .nil) .nil)) (.node (o50v0 q P) (.node (o82v0 q P) (.node (o146v0 q P) .nil .nil) (.node (o210v0 q P) .nil .nil)) (.node (o114v0 q P) (.node (o178v0 q P) .nil .nil) .nil))) (.node (o26v0 q P) (.node (o42v0 q P) (.node (o74v0 q P) (.node (o138v0 q P) .nil .nil) (.node (o202v0 q P) .nil .nil)) (.node (o106v0 q P) (.node (o170v0 q P) .nil .nil) .nil)) (.node (o58v0 q P) (.node (o90v0 q P) (.node (o154v0 q P) .nil .nil) .nil) (.node (o122v0 q P) (.node (o186v0 q P) .nil .nil) .nil)))) (.node (o14v0 q P) (.node (o22v0 q P) (.node (o38v0 q P) (.node (o70v0 q P) (.node (o134v0 q P) .nil .nil) (.node (o198v0 q P) .nil .nil)) (.node (o102v0 q P) (.node (o166v0 q P) .nil .nil) .nil)) (.node (o54v0 q P) (.node (o86v0 q P) (.node (o150v0 q P) .nil .nil) .nil) (.node (o118v0 q P) (.node (o182v0 q P) .nil .nil) .nil))) (.node (o30v0 q P) (.node (o46v0 q P) (.node (o78v0 q P) (.node (o142v0 q P) .nil .nil) (.node (o206v0 q P) .nil .nil)) (.node (o110v0 q P) (.node (o174v0 q P) .nil .nil) .nil)) (.node (o62v0 q P) (.node (o94v0 q P) (.node (o158v0 q P) .nil .nil) .nil) (.node (o126v0 q P) (.node (o190v0 q P) .nil .nil) .nil)))))))
noncomputable def tr_m (q : Program) (P : Params) : BT := (.node (o0v0 q P) (.node (o1v0 q P) (.node (o3v3 q P) (.node (o7v0 q P) (.node (o15v0 q P) (.node (o31v0 q P) (.node (o63v0 q P) (.node (o127v0 q P) .nil .nil) .nil) (.node (o95v0 q P) .nil .nil)) (.node (o47v0 q P) (.node (o79v0 q P) .nil .nil) (.node (o111v0 q P) .nil .nil))) (.node (o23v0 q P) (.node (o39v0 q P) (.node (o71v0 q P) .nil .nil) (.node (o103v0 q P) .nil .nil)) (.node (o55v0 q P) (.node (o87v0 q P) .nil .nil) (.node (o119v0 q P) .nil .nil)))) (.node (o11v1 q P) (.node (o19v0 q P) (.node (o35v0 q P) (.node (o67v0 q P) .nil .nil) (.node (o99v0 q P) .nil .nil)) (.node (o51v0 q P) (.node (o83v0 q P) .nil .nil) (.node (o115v0 q P) .nil .nil))) (.node (o27v0 q P) (.node (o43v0 q P) (.node (o75v0 q P) .nil .nil) (.node (o107v0 q P) .nil .nil)) (.node (o59v0 q P) (.node (o91v0 q P) .nil .nil) (.node (o123v0 q P) .nil .nil))))) (.node (o5v0 q P) (.node (o9v0 q P) (.node (o17v0 q P) (.node (o33v0 q P) (.node (o65v0 q P) (.node (o129v0 q P) .nil .nil) .nil) (.node (o97v0 q P) .nil .nil)) (.node (o49v0 q P) (.node (o81v0 q P) .nil .nil) (.node (o113v0 q P) .nil .nil))) (.node (o25v0 q P) (.node (o41v0 q P) (.node (o73v0 q P) .nil .nil) (.node (o105v0 q P) .nil .nil)) (.node (o57v0 q P) (.node (o89v0 q P) .nil .nil) (.node (o121v0 q P) .nil .nil)))) (.node (o13v0 q P) (.node (o21v0 q P) (.node (o37v0 q P) (.node (o69v0 q P) .nil .nil) (.node (o101v0 q P) .nil .nil)) (.node (o53v0 q P) (.node (o85v0 q P) .nil .nil) (.node (o117v0 q P) .nil .nil))) (.node (o29v2 q P) (.node (o45v0 q P) (.node (o77v0 q P) .nil .nil) (.node (o109v0 q P) .nil .nil)) (.node (o61v0 q P) (.node (o93v0 q P) .nil .nil) (.node (o125v0 q P) .nil .nil)))))) (.node (o2v0 q P) (.node (o4v0 q P) (.node (o8v0 q P) (.node (o16v0 q P) (.node (o32v0 q P) (.node (o64v0 q P) (.node (o128v0 q P) .nil .nil) .nil) (.node (o96v0 q P) .nil .nil)) (.node (o48v0 q P) (.node (o80v0 q P) .nil .nil) (.node (o112v0 q P) .nil .nil))) (.node (o24v0 q P) (.node (o40v0 q P) (.node (o72v0 q P) .nil .nil) (.node (o104v0 q P) .nil .nil)) (.node (o56v0 q P) (.node (o88v0 q P) .nil .nil) (.node (o120v0 q P) .nil .nil)))) (.node (o12v0 q P) (.node (o20v0 q P) (.node (o36v0 q P) (.node (o68v0 q P) .nil .nil) (.node (o100v0 q P) .nil .nil)) (.node (o52v0 q P) (.node (o84v0 q P) .nil .nil) (.node (o116v0 q P) .nil .nil))) (.node (o28v0 q P) (.node (o44v0 q P) (.node (o76v0 q P) .nil .nil) (.node (o108v0 q P) .nil .nil)) (.node (o60v0 q P) (.node (o92v0 q P) .nil .nil) (.node (o124v0 q P) .nil .nil))))) (.node (o6v0 q P) (.node (o10v0 q P) (.node (o18v0 q P) (.node (o34v0 q P) (.node (o66v0 q P) (.node (o130v0 q P) .nil .nil) .nil) (.node (o98v0 q P) .nil .nil)) (.node (o50v0 q P) (.node (o82v0 q P) .nil .nil) (.node (o114v0 q P) .nil .nil))) (.node (o26v0 q P) (.node (o42v0 q P) (.node (o74v0 q P) .nil .nil) (.node (o106v0 q P) .nil .nil)) (.node (o58v0 q P) (.node (o90v0 q P) .nil .nil) (.node (o122v0 q P) .nil .nil)))) (.node (o14v0 q P) (.node (o22v0 q P) (.node (o38v0 q P) (.node (o70v0 q P) .nil .nil) (.node (o102v0 q P) .nil .nil)) (.node (o54v0 q P) (.node (o86v0 q P) .nil .nil) (.node (o118v0 q P) .nil .nil))) (.node (o30v0 q P) (.node (o46v0 q P) (.node (o78v0 q P) .nil .nil) (.node (o110v0 q P) .nil .nil)) (.node (o62v0 q P) (.node (o94v0 q P) .nil .nil) (.node (o126v0 q P) .nil .nil)))))))
def envE (q : Program) : Env := { scope := q.main.scope, locals := mainNs, globals := mainNs, cells := [], code := .ref 30, frame := some 31 }
def bodyE (q : Program) : List Stmt := behindTheImports q
def cE (q : Program) : Code := .body (bodyE q) (envE q)
def stE (q : Program) (i k : Nat) : List Stmt := ((bodyE q).drop i).take k
abbrev q0 : Pos := ⟨0, 0, 0, 0⟩
noncomputable def Se (q : Program) (P : Params) (os : OsState) : SharedT := ⟨tr_e q P, 28, {}, ⟨[]⟩, {}, 276, os⟩
def pose : Pos := ⟨0, 0, 0, 0⟩
noncomputable def S0 (q : Program) (P : Params) (os : OsState) : SharedT := ⟨tr_0 q P, 28, {}, ⟨[]⟩, {}, 276, os⟩
def pos0 : Pos := ⟨0, 0, 0, 0⟩
noncomputable def Sa (q : Program) (P : Params) (os : OsState) : SharedT := ⟨tr_a q P, 32, {}, ⟨[]⟩, {}, 282, os⟩
def posa : Pos := ⟨0, 0, 0, 0⟩
noncomputable def Sb (q : Program) (P : Params) (os : OsState) : SharedT := ⟨tr_b q P, 32, {}, ⟨[]⟩, {}, 282, os⟩
def posb : Pos := ⟨0, 0, 0, 0⟩
noncomputable def S7 (q : Program) (P : Params) (os : OsState) : SharedT := ⟨tr_7 q P, 74, {}, ⟨[]⟩, {}, 383, os⟩
def pos7 : Pos := ⟨21, 0, 21, 8⟩
noncomputable def S8 (q : Program) (P : Params) (os : OsState) : SharedT := ⟨tr_8 q P, 85, {}, ⟨[]⟩, {}, 443, os⟩
def pos8 : Pos := ⟨22, 0, 22, 6⟩
noncomputable def S9 (q : Program) (P : Params) (os : OsState) : SharedT := ⟨tr_9 q P, 92, {}, ⟨[]⟩, {}, 450, os⟩
def pos9 : Pos := ⟨23, 0, 24, 30⟩
noncomputable def S10 (q : Program) (P : Params) (os : OsState) : SharedT := ⟨tr_10 q P, 131, {}, ⟨[]⟩, {}, 2401, os⟩
def pos10 : Pos := ⟨25, 0, 25, 13⟩
noncomputable def S11 (q : Program) (P : Params) (os : OsState) : SharedT := ⟨tr_11 q P, 138, {}, ⟨[]⟩, {}, 2409, os⟩
def pos11 : Pos := ⟨26, 0, 30, 23⟩
noncomputable def S12 (q : Program) (P : Params) (os : OsState) : SharedT := ⟨tr_12 q P, 155, {}, ⟨[]⟩, {}, 2450, os⟩
def pos12 : Pos := ⟨31, 0, 31, 6⟩
noncomputable def S23 (q : Program) (P : Params) (os : OsState) : SharedT := ⟨tr_23 q P, 211, {}, ⟨[]⟩, {}, 2521, os⟩
def pos23 : Pos := ⟨104, 0, 114, 101⟩
noncomputable def Sf (q : Program) (P : Params) (os : OsState) : SharedT := ⟨tr_f q P, 211, {}, ⟨[]⟩, {}, 2521, os⟩
def posf : Pos := ⟨0, 0, 0, 0⟩
noncomputable def Sm (q : Program) (P : Params) (os : OsState) : SharedT := ⟨tr_m q P, 131, {}, ⟨[]⟩, {}, 2400, os⟩
def posm : Pos := ⟨0, 0, 0, 0⟩
end Mine
end
section
open PySem PySem.W PyProof.Rows
set_option maxRecDepth 100000
namespace Mine
noncomputable def kOfq (q : Program) (P : Params) : Frag := [(nat_lit 2, o2v0 q P), (nat_lit 3, o3v7 q P), (nat_lit 6, o6v0 q P), (nat_lit 11, o11v1 q P), (nat_lit 12, o12v0 q P), (nat_lit 33, o33v0 q P), (nat_lit 34, o34v0 q P), (nat_lit 35, o35v0 q P), (nat_lit 36, o36v0 q P), (nat_lit 37, o37v0 q P), (nat_lit 39, o39v0 q P), (nat_lit 40, o40v0 q P), (nat_lit 42, o42v0 q P), (nat_lit 43, o43v0 q P), (nat_lit 51, o51v0 q P), (nat_lit 53, o53v0 q P), (nat_lit 54, o54v0 q P), (nat_lit 56, o56v0 q P), (nat_lit 57, o57v0 q P), (nat_lit 58, o58v0 q P), (nat_lit 59, o59v0 q P), (nat_lit 60, o60v0 q P), (nat_lit 61, o61v0 q P), (nat_lit 62, o62v0 q P), (nat_lit 65, o65v0 q P), (nat_lit 66, o66v0 q P), (nat_lit 67, o67v0 q P), (nat_lit 69, o69v0 q P), (nat_lit 70, o70v0 q P), (nat_lit 72, o72v0 q P), (nat_lit 73, o73v0 q P), (nat_lit 81, o81v0 q P), (nat_lit 85, o85v0 q P), (nat_lit 87, o87v0 q P), (nat_lit 88, o88v0 q P), (nat_lit 90, o90v0 q P), (nat_lit 91, o91v0 q P), (nat_lit 92, o92v0 q P), (nat_lit 131, o131v0 q P), (nat_lit 133, o133v0 q P), (nat_lit 134, o134v0 q P), (nat_lit 136, o136v0 q P), (nat_lit 137, o137v0 q P), (nat_lit 151, o151v0 q P), (nat_lit 155, o155v0 q P), (nat_lit 157, o157v0 q P), (nat_lit 158, o158v0 q P), (nat_lit 160, o160v0 q P), (nat_lit 161, o161v0 q P), (nat_lit 162, o162v0 q P), (nat_lit 165, o165v0 q P), (nat_lit 166, o166v0 q P), (nat_lit 167, o167v0 q P), (nat_lit 170, o170v0 q P), (nat_lit 171, o171v0 q P), (nat_lit 172, o172v0 q P), (nat_lit 175, o175v0 q P), (nat_lit 176, o176v0 q P), (nat_lit 177, o177v0 q P), (nat_lit 179, o179v0 q P), (nat_lit 180, o180v0 q P), (nat_lit 182, o182v0 q P), (nat_lit 183, o183v0 q P), (nat_lit 184, o184v0 q P), (nat_lit 186, o186v0 q P), (nat_lit 187, o187v0 q P), (nat_lit 189, o189v0 q P), (nat_lit 190, o190v0 q P), (nat_lit 191, o191v0 q P), (nat_lit 194, o194v0 q P), (nat_lit 195, o195v0 q P), (nat_lit 196, o196v0 q P), (nat_lit 199, o199v0 q P), (nat_lit 200, o200v0 q P), (nat_lit 201, o201v0 q P), (nat_lit 204, o204v0 q P), (nat_lit 205, o205v0 q P), (nat_lit 206, o206v0 q P), (nat_lit 209, o209v0 q P), (nat_lit 210, o210v0 q P)]
noncomputable def K (P : Params) : Frag := (nat_lit 2, o2v0 PySem.Challenge.pw_ku0043_01 P) :: (nat_lit 3, o3v7 PySem.Challenge.pw_ku0043_01 P) :: (nat_lit 6, o6v0 PySem.Challenge.pw_ku0043_01 P) :: (nat_lit 11, o11v1 PySem.Challenge.pw_ku0043_01 P) :: (nat_lit 12, o12v0 PySem.Challenge.pw_ku0043_01 P) :: (nat_lit 33, o33v0 PySem.Challenge.pw_ku0043_01 P) :: (nat_lit 34, o34v0 PySem.Challenge.pw_ku0043_01 P) :: (nat_lit 35, o35v0 PySem.Challenge.pw_ku0043_01 P) :: (nat_lit 36, o36v0 PySem.Challenge.pw_ku0043_01 P) :: (nat_lit 37, o37v0 PySem.Challenge.pw_ku0043_01 P) :: (nat_lit 39, o39v0 PySem.Challenge.pw_ku0043_01 P) :: (nat_lit 40, o40v0 PySem.Challenge.pw_ku0043_01 P) :: (nat_lit 42, o42v0 PySem.Challenge.pw_ku0043_01 P) :: (nat_lit 43, o43v0 PySem.Challenge.pw_ku0043_01 P) :: (nat_lit 51, o51v0 PySem.Challenge.pw_ku0043_01 P) :: (nat_lit 53, o53v0 PySem.Challenge.pw_ku0043_01 P) :: (nat_lit 54, o54v0 PySem.Challenge.pw_ku0043_01 P) :: (nat_lit 56, o56v0 PySem.Challenge.pw_ku0043_01 P) :: (nat_lit 57, o57v0 PySem.Challenge.pw_ku0043_01 P) :: (nat_lit 58, o58v0 PySem.Challenge.pw_ku0043_01 P) :: (nat_lit 59, o59v0 PySem.Challenge.pw_ku0043_01 P) :: (nat_lit 60, o60v0 PySem.Challenge.pw_ku0043_01 P) :: (nat_lit 61, o61v0 PySem.Challenge.pw_ku0043_01 P) :: (nat_lit 62, o62v0 PySem.Challenge.pw_ku0043_01 P) :: (nat_lit 65, o65v0 PySem.Challenge.pw_ku0043_01 P) :: (nat_lit 66, o66v0 PySem.Challenge.pw_ku0043_01 P) :: (nat_lit 67, o67v0 PySem.Challenge.pw_ku0043_01 P) :: (nat_lit 69, o69v0 PySem.Challenge.pw_ku0043_01 P) :: (nat_lit 70, o70v0 PySem.Challenge.pw_ku0043_01 P) :: (nat_lit 72, o72v0 PySem.Challenge.pw_ku0043_01 P) :: (nat_lit 73, o73v0 PySem.Challenge.pw_ku0043_01 P) :: (nat_lit 81, o81v0 PySem.Challenge.pw_ku0043_01 P) :: (nat_lit 85, o85v0 PySem.Challenge.pw_ku0043_01 P) :: (nat_lit 87, o87v0 PySem.Challenge.pw_ku0043_01 P) :: (nat_lit 88, o88v0 PySem.Challenge.pw_ku0043_01 P) :: (nat_lit 90, o90v0 PySem.Challenge.pw_ku0043_01 P) :: (nat_lit 91, o91v0 PySem.Challenge.pw_ku0043_01 P) :: (nat_lit 92, o92v0 PySem.Challenge.pw_ku0043_01 P) :: (nat_lit 131, o131v0 PySem.Challenge.pw_ku0043_01 P) :: (nat_lit 133, o133v0 PySem.Challenge.pw_ku0043_01 P) :: (nat_lit 134, o134v0 PySem.Challenge.pw_ku0043_01 P) :: (nat_lit 136, o136v0 PySem.Challenge.pw_ku0043_01 P) :: (nat_lit 137, o137v0 PySem.Challenge.pw_ku0043_01 P) :: (nat_lit 151, o151v0 PySem.Challenge.pw_ku0043_01 P) :: (nat_lit 155, o155v0 PySem.Challenge.pw_ku0043_01 P) :: (nat_lit 157, o157v0 PySem.Challenge.pw_ku0043_01 P) :: (nat_lit 158, o158v0 PySem.Challenge.pw_ku0043_01 P) :: (nat_lit 160, o160v0 PySem.Challenge.pw_ku0043_01 P) :: (nat_lit 161, o161v0 PySem.Challenge.pw_ku0043_01 P) :: (nat_lit 162, o162v0 PySem.Challenge.pw_ku0043_01 P) :: (nat_lit 165, o165v0 PySem.Challenge.pw_ku0043_01 P) :: (nat_lit 166, o166v0 PySem.Challenge.pw_ku0043_01 P) :: (nat_lit 167, o167v0 PySem.Challenge.pw_ku0043_01 P) :: (nat_lit 170, o170v0 PySem.Challenge.pw_ku0043_01 P) :: (nat_lit 171, o171v0 PySem.Challenge.pw_ku0043_01 P) :: (nat_lit 172, o172v0 PySem.Challenge.pw_ku0043_01 P) :: (nat_lit 175, o175v0 PySem.Challenge.pw_ku0043_01 P) :: (nat_lit 176, o176v0 PySem.Challenge.pw_ku0043_01 P) :: (nat_lit 177, o177v0 PySem.Challenge.pw_ku0043_01 P) :: (nat_lit 179, o179v0 PySem.Challenge.pw_ku0043_01 P) :: (nat_lit 180, o180v0 PySem.Challenge.pw_ku0043_01 P) :: (nat_lit 182, o182v0 PySem.Challenge.pw_ku0043_01 P) :: (nat_lit 183, o183v0 PySem.Challenge.pw_ku0043_01 P) :: (nat_lit 184, o184v0 PySem.Challenge.pw_ku0043_01 P) :: (nat_lit 186, o186v0 PySem.Challenge.pw_ku0043_01 P) :: (nat_lit 187, o187v0 PySem.Challenge.pw_ku0043_01 P) :: (nat_lit 189, o189v0 PySem.Challenge.pw_ku0043_01 P) :: (nat_lit 190, o190v0 PySem.Challenge.pw_ku0043_01 P) :: (nat_lit 191, o191v0 PySem.Challenge.pw_ku0043_01 P) :: (nat_lit 194, o194v0 PySem.Challenge.pw_ku0043_01 P) :: (nat_lit 195, o195v0 PySem.Challenge.pw_ku0043_01 P) :: (nat_lit 196, o196v0 PySem.Challenge.pw_ku0043_01 P) :: (nat_lit 199, o199v0 PySem.Challenge.pw_ku0043_01 P) :: (nat_lit 200, o200v0 PySem.Challenge.pw_ku0043_01 P) :: (nat_lit 201, o201v0 PySem.Challenge.pw_ku0043_01 P) :: (nat_lit 204, o204v0 PySem.Challenge.pw_ku0043_01 P) :: (nat_lit 205, o205v0 PySem.Challenge.pw_ku0043_01 P) :: (nat_lit 206, o206v0 PySem.Challenge.pw_ku0043_01 P) :: (nat_lit 209, o209v0 PySem.Challenge.pw_ku0043_01 P) :: (nat_lit 210, o210v0 PySem.Challenge.pw_ku0043_01 P) :: []
def kAddrs : List Addr := [nat_lit 2, nat_lit 3, nat_lit 6, nat_lit 11, nat_lit 12, nat_lit 33, nat_lit 34, nat_lit 35, nat_lit 36, nat_lit 37, nat_lit 39, nat_lit 40, nat_lit 42, nat_lit 43, nat_lit 51, nat_lit 53, nat_lit 54, nat_lit 56, nat_lit 57, nat_lit 58, nat_lit 59, nat_lit 60, nat_lit 61, nat_lit 62, nat_lit 65, nat_lit 66, nat_lit 67, nat_lit 69, nat_lit 70, nat_lit 72, nat_lit 73, nat_lit 81, nat_lit 85, nat_lit 87, nat_lit 88, nat_lit 90, nat_lit 91, nat_lit 92, nat_lit 131, nat_lit 133, nat_lit 134, nat_lit 136, nat_lit 137, nat_lit 151, nat_lit 155, nat_lit 157, nat_lit 158, nat_lit 160, nat_lit 161, nat_lit 162, nat_lit 165, nat_lit 166, nat_lit 167, nat_lit 170, nat_lit 171, nat_lit 172, nat_lit 175, nat_lit 176, nat_lit 177, nat_lit 179, nat_lit 180, nat_lit 182, nat_lit 183, nat_lit 184, nat_lit 186, nat_lit 187, nat_lit 189, nat_lit 190, nat_lit 191, nat_lit 194, nat_lit 195, nat_lit 196, nat_lit 199, nat_lit 200, nat_lit 201, nat_lit 204, nat_lit 205, nat_lit 206, nat_lit 209, nat_lit 210]

noncomputable abbrev tw : Program := PySem.Challenge.pw_ku0043_01
theorem tw_eq : PySem.Challenge.pw_ku0043_01 = tw := rfl
theorem seg_eq : @segRunT = PySem.W.Fast.tw10110043849684766642 := PySem.W.Fast.te10110043849684766642
theorem tb_eq : treeTable = PySem.W.Fast.tw14364793385576792824 := PySem.W.Fast.te14364793385576792824
abbrev A6 : Option Value := some (.ref 6)

theorem p_open (w : World) : PySem.W.Fast.tw10274390034422433532 PySem.W.Fast.tw14364793385576792824 (opening tw) w 799 (PySem.W.Fast.tw1435165496053646825 (opening tw)).1 (PySem.W.Fast.tw1435165496053646825 (opening tw)).2 =
    some ⟨absHeap (tr_e tw (World.params w)) 28 {}, ⟨[]⟩, {}, 276, (PySem.W.Fast.tw1435165496053646825 (opening tw)).1.os⟩ := by kernel_rfl
theorem p_open' (w : World) : importEnds treeTable (opening tw) w 799 (start (opening tw)).1 (start (opening tw)).2 =
    some ⟨absHeap (tr_e tw (World.params w)) 28 {}, ⟨[]⟩, {}, 276, (start (opening tw)).1.os⟩ := by
  rw [tb_eq, PySem.W.Fast.te10274390034422433532, PySem.W.Fast.te1435165496053646825]
  exact p_open w
theorem p_fence (w : World) : (fun os => (PySem.W.Fast.tw14289696077712309145 tw ⟨absHeap (tr_e tw (World.params w)) 28 {}, ⟨[]⟩, {}, 276, os⟩).map (fun s => (s.heap, s.gens, s.drawn, s.toks))) =
    fun _ => some (absHeap (tr_0 tw (World.params w)) 28 {}, ⟨[]⟩, {}, 276) := by kernel_rfl
theorem p_size (w : World) : ((absHeap (tr_0 tw (World.params w)) 28 {}).isNs mainGlobals && (Array.mk ([] : List GenState)).size == 0, (absHeap (tr_0 tw (World.params w)) 28 {}).objs.size, (absHeap (tr_0 tw (World.params w)) 28 {}).nsMap mainGlobals "__annotations__") = (true, 28, A6) := by kernel_rfl
theorem p_pre (w : World) (os : OsState) : PySem.W.Fast.tw15667345088766844465 PySem.W.Fast.tw14364793385576792824 tw w 28 A6 12 (S0 tw (World.params w) os).abs (topStub tw) = some ((Sa tw (World.params w) os).abs, ⟨PySem.W.Fast.tw11892475500146522536 PySem.W.Fast.tw14364793385576792824 (cE tw), cE tw, posa, [topFrame q0]⟩) := by kernel_rfl
theorem p_pre' (w : World) (os : OsState) : topGo treeTable tw w 28 A6 12 (S0 tw (World.params w) os).abs (topStub tw) = some ((Sa tw (World.params w) os).abs, ⟨denote treeTable (cE tw), cE tw, posa, [topFrame q0]⟩) := by
  rw [tb_eq, PySem.W.Fast.te15667345088766844465, PySem.W.Fast.te11892475500146522536]
  exact p_pre w os
theorem p_block (w : World) (os : OsState) : segRun treeTable tw w 28 A6 1 1 (Sa tw (World.params w) os).abs (blockOf (bodyE tw) (envE tw) (cE tw) posa [topFrame q0]) = some (Flow.next, (Sb tw (World.params w) os).abs, cE tw, posb) := by kernel_rfl
theorem p_fin (w : World) (os : OsState) : topRun treeTable tw w 28 A6 2 (S23 tw (World.params w) os).abs ⟨doneF Flow.next, cE tw, pos23, [topFrame q0]⟩ = some (Sf tw (World.params w) os).abs := by kernel_rfl

-- statement 10
def dKs : Stmt → List (Option Expr)
  | .Assign _ (.Dict ks _ _) _ => ks
  | _ => []
def dVs : Stmt → List Expr
  | .Assign _ (.Dict _ vs _) _ => vs
  | _ => []
def dDp : Stmt → Pos
  | .Assign _ (.Dict _ _ p) _ => p
  | _ => default
def dPp : Stmt → Pos
  | .Assign _ _ p => p
  | _ => default
def dId : Stmt → Str
  | .Assign (.Name i _ :: _) _ _ => i
  | _ => default
def dNp : Stmt → Pos
  | .Assign (.Name _ p :: _) _ _ => p
  | _ => default
noncomputable abbrev s10 : Stmt := stAt tw 11
theorem s10_eq : s10 = .Assign [.Name (dId s10) (dNp s10)] (.Dict (dKs s10) (dVs s10) (dDp s10)) (dPp s10) := by kernel_rfl
theorem items_eq : (evalEachOpt (dKs s10) (envE tw)).zip ((evalEach (dVs s10) (envE tw)).map fun v => do let x ← v; standAt (dDp s10); pure x) = ((tab tw).map (pairS (dDp s10))).map itemS := by kernel_rfl
theorem exec_dict (id : Str) (npos dpos pos : Pos) (ks : List (Option Expr)) (vs : List Expr) (env : Env) :
    exec (.Assign [.Name id npos] (.Dict ks vs dpos) pos) env = (standAt pos >>= fun _ => standAt dpos >>= fun _ => dictDisplay ((evalEachOpt ks env).zip ((evalEach vs env).map fun v => do let x ← v; standAt dpos; pure x))) >>= fun v => assignStores env v none [assign (.Name id npos) env] := by
  rw [arm_exec_Assign]
  have h1 : swapsWithSole [.Name id npos] (.Dict ks vs dpos) pos.line env = pure false := rfl
  have h2 : swappedStores [.Name id npos] (.Dict ks vs dpos) env = pure none := rfl
  have h3 : eval (.Dict ks vs dpos) env = (standAt dpos >>= fun _ => dictDisplay ((evalEachOpt ks env).zip ((evalEach vs env).map fun v => do let x ← v; standAt dpos; pure x))) := arm_eval_Dict ..
  rw [h1, h2, h3]
  simp only [pure_bind, Bool.false_eq_true, if_false, bind_assoc]
  rfl
noncomputable def c0L : List (Int × Str) := (tab tw).take 17
noncomputable def csL : List (List (Int × Str)) := (List.range 37).map fun i => ((tab tw).drop (17 + 17 * i)).take 17
noncomputable def laL : List (Int × Str) := (tab tw).drop 646
theorem tab_split : tab tw = c0L ++ (csL.flatten ++ laL) := by kernel_rfl
theorem c0_len : c0L.length = 17 := by kernel_rfl
theorem la_len : laL.length = 4 := by kernel_rfl
theorem cs_flat : csL.flatten.length = 629 := by kernel_rfl
theorem cs_num : csL.length = 37 := by kernel_rfl
theorem cs_each : (csL.all fun c => c.length == 17) = true := by kernel_rfl
/-- rising keys -/
def rising : Int → List (Int × Str) → Bool
  | _, [] => true
  | k, x :: r => decide (k < x.1) && rising x.1 r
theorem tab_rising : (rising 0 (tab tw) && (tab tw).all fun x => decide (x.1 < 2000000)) = true := by kernel_rfl
theorem rising_gt : ∀ (L : List (Int × Str)) (k : Int), rising k L = true → ∀ x ∈ L, k < x.1
  | [], _, _, x, hx => nomatch hx
  | y :: r, k, h, x, hx => by
    obtain ⟨a, b⟩ := Bool.and_eq_true_iff.mp h
    have a := of_decide_eq_true a
    rcases List.mem_cons.mp hx with rfl | hx
    · exact a
    · exact Int.lt_trans a (rising_gt r y.1 b x hx)
theorem rising_nodup : ∀ (L : List (Int × Str)) (k : Int), rising k L = true → (L.map (·.1)).Nodup
  | [], _, _ => List.nodup_nil
  | y :: r, k, h => by
    obtain ⟨_, b⟩ := Bool.and_eq_true_iff.mp h
    rw [List.map_cons, List.nodup_cons]
    refine ⟨fun hm => ?_, rising_nodup r y.1 b⟩
    obtain ⟨x, hx, e⟩ := List.mem_map.mp hm
    exact absurd (rising_gt r y.1 b x hx) (by rw [e]; exact Int.lt_irrefl _)
theorem tab_keys : KeysOk [] (tab tw) := by
  obtain ⟨a, b⟩ := Bool.and_eq_true_iff.mp tab_rising
  exact ⟨fun x hx => ⟨Int.le_of_lt (rising_gt _ 0 a x hx), of_decide_eq_true (List.all_eq_true.mp b x hx), fun e he => nomatch he⟩, rising_nodup _ 0 a⟩
theorem p_heap (P : Params) : Hp (absHeap (tr_9 tw P) 92 {}) (dObj (ents 3 450 c0L ++ ents 3 501 csL.flatten ++ ents 2 2388 laL) :: chunkObjs 501 csL ++ [dObj (ents 2 2388 laL)]) = absHeap (tr_m tw P) 131 {} := by kernel_rfl
theorem p_tail (w : World) (os : OsState) (pos : Pos) : PySem.W.Fast.tw10110043849684766642 PySem.W.Fast.tw14364793385576792824 tw w 28 A6 1 41 (Sm tw (World.params w) os) ⟨(assignStores (envE tw) (.ref 92) none [assign (.Name (dId s10) (dNp s10)) (envE tw)]).wrap doneF deadEnd id id, cE tw, pos, [topFrame q0]⟩ = some (Flow.next, S10 tw (World.params w) os, cE tw, pos10) := by
  revert os pos
  refine byRow2 "special-get-raises" (P := fun w => ∀ os pos, PySem.W.Fast.tw10110043849684766642 PySem.W.Fast.tw14364793385576792824 tw w 28 A6 1 41 (Sm tw (World.params w) os) ⟨(assignStores (envE tw) (.ref 92) none [assign (.Name (dId s10) (dNp s10)) (envE tw)]).wrap doneF deadEnd id id, cE tw, pos, [topFrame q0]⟩ = some (Flow.next, S10 tw (World.params w) os, cE tw, pos10)) (fun w os pos => ?_) (fun w os pos => ?_) w
  · kernel_rfl
  · kernel_rfl

theorem run10 {w : World} {os : OsState} {rest : List Stmt} {N : Nat} {r : Shared} (h : topRun treeTable tw w 28 A6 N (S10 tw (World.params w) os).abs (restOf rest (envE tw) (cE tw) pos10 [topFrame q0]) = some r) :
    topRun treeTable tw w 28 A6 (41 + N + 39002) (S9 tw (World.params w) os).abs (restOf (s10 :: rest) (envE tw) (cE tw) pos9 [topFrame q0]) = some r := by
  have g : Gp 39002 tw w (bodyE tw) (envE tw) q0 (standAt (dPp s10) >>= fun _ => standAt (dDp s10) >>= fun _ => dictDisplay (((tab tw).map (pairS (dDp s10))).map itemS)) (S9 tw (World.params w) os).abs
      (fun a s' => a = .ref 92 ∧ s' = (Sm tw (World.params w) os).abs) := by
    have hz : (absHeap (tr_9 tw (World.params w)) 92 {}).objs.size = 92 := absHeap_size ..
    refine gp_le (c := 1 + (1 + (1000 * csL.length + 2000))) (gp_bind (gp_at (gp_bind (gp_at ?_)))) (by rw [cs_num]; decide)
    rw [tab_split]
    refine gp_display (h := absHeap (tr_9 tw (World.params w)) 92 {}) c0L csL laL (by rw [hz]; decide) rfl c0_len (fun c hc => by simpa using List.all_eq_true.mp cs_each c hc) (by rw [la_len]; decide) (by intro e; have := la_len; rw [e] at this; cases this) (by rw [← tab_split]; exact tab_keys) (by rw [c0_len, cs_flat, la_len]; decide) ?_
    rw [c0_len, cs_flat, la_len, hz]
    refine ⟨rfl, ?_⟩
    have := p_heap (World.params w)
    show Shared.mk (Hp (absHeap (tr_9 tw (World.params w)) 92 {}) (dObj (ents 3 450 c0L ++ ents 3 501 csL.flatten ++ ents 2 2388 laL) :: chunkObjs 501 csL ++ [dObj (ents 2 2388 laL)])) _ _ 2400 _ = _
    rw [this]
    rfl
  unfold restOf
  rw [execs_cons_wrap, s10_eq, exec_dict, items_eq, Sem.bind_eq_wrap', Sem.wrap_wrap]
  obtain ⟨a, s', pos', n, hn, ⟨rfl, rfl⟩, k⟩ := g (fun v => (assignStores (envE tw) v none [assign (.Name (dId s10) (dNp s10)) (envE tw)]).wrap (fun f => match f with | .next => (execs rest (envE tw)).wrap doneF (leaveH (envE tw)) id id | f => doneF f) (leaveH (envE tw)) id id) (leaveH (envE tw)) id id pos9
  have seg : segRun treeTable tw w 28 A6 1 41 (Sm tw (World.params w) os).abs ⟨(assignStores (envE tw) (.ref 92) none [assign (.Name (dId s10) (dNp s10)) (envE tw)]).wrap doneF deadEnd id id, cE tw, pos', [topFrame q0]⟩ = some (Flow.next, (S10 tw (World.params w) os).abs, cE tw, pos10) := by
    refine segRun_of ?_
    have := p_tail w os pos'
    rw [seg_eq, tb_eq]
    exact this
  obtain ⟨a, ha, hN⟩ := seg_top (res := id) (K' := fun f => match f with | .next => (execs rest (envE tw)).wrap doneF (leaveH (envE tw)) id id | f => doneF f) (H' := leaveH (envE tw)) (B := [topFrame q0]) rfl 41 (Sm tw (World.params w) os).abs ⟨(assignStores (envE tw) (.ref 92) none [assign (.Name (dId s10) (dNp s10)) (envE tw)]).wrap doneF deadEnd id id, cE tw, pos', [topFrame q0]⟩
    ⟨(assignStores (envE tw) (.ref 92) none [assign (.Name (dId s10) (dNp s10)) (envE tw)]).wrap (fun f => match f with | .next => (execs rest (envE tw)).wrap doneF (leaveH (envE tw)) id id | f => doneF f) (leaveH (envE tw)) id id, cE tw, pos', [topFrame q0]⟩ _ _ _ _ ⟨rfl, rfl, .inl ⟨rfl, rfl, _, rfl, rfl⟩⟩ seg
  obtain rfl : a = .next := ha
  have := topRun_mono (39002 - n) _ _ _ _ (k _ r (hN N r h))
  rw [show 41 + N + n + (39002 - n) = 41 + N + 39002 by omega] at this
  exact this

end Mine
end
section
open PySem PySem.W PyProof.Rows
set_option maxRecDepth 100000
namespace Mine
theorem p0_7 (w : World) (os : OsState) : PySem.W.Fast.tw10110043849684766642 PySem.W.Fast.tw14364793385576792824 PySem.Challenge.pw_ku0043_01 (w) 28 (some (.ref 6)) 1 469 (Sb PySem.Challenge.pw_ku0043_01 (World.params (w)) os) (piecesOf (stE PySem.Challenge.pw_ku0043_01 0 8) (envE PySem.Challenge.pw_ku0043_01) (cE PySem.Challenge.pw_ku0043_01) posb [topFrame q0]) = some (Flow.next, S7 PySem.Challenge.pw_ku0043_01 (World.params (w)) os, cE PySem.Challenge.pw_ku0043_01, pos7) := by
  revert os
  refine byRow2 "special-get-raises" (P := fun w => ∀ os, PySem.W.Fast.tw10110043849684766642 PySem.W.Fast.tw14364793385576792824 PySem.Challenge.pw_ku0043_01 (w) 28 (some (.ref 6)) 1 469 (Sb PySem.Challenge.pw_ku0043_01 (World.params (w)) os) (piecesOf (stE PySem.Challenge.pw_ku0043_01 0 8) (envE PySem.Challenge.pw_ku0043_01) (cE PySem.Challenge.pw_ku0043_01) posb [topFrame q0]) = some (Flow.next, S7 PySem.Challenge.pw_ku0043_01 (World.params (w)) os, cE PySem.Challenge.pw_ku0043_01, pos7)) (fun w os => ?_) (fun w os => ?_) w
  · kernel_rfl
  · kernel_rfl

theorem p8 (w : World) (os : OsState) : PySem.W.Fast.tw10110043849684766642 PySem.W.Fast.tw14364793385576792824 PySem.Challenge.pw_ku0043_01 (w) 28 (some (.ref 6)) 1 999 (S7 PySem.Challenge.pw_ku0043_01 (World.params (w)) os) (piecesOf (stE PySem.Challenge.pw_ku0043_01 8 1) (envE PySem.Challenge.pw_ku0043_01) (cE PySem.Challenge.pw_ku0043_01) pos7 [topFrame q0]) = some (Flow.next, S8 PySem.Challenge.pw_ku0043_01 (World.params (w)) os, cE PySem.Challenge.pw_ku0043_01, pos8) := by
  revert os
  refine byRow2 "special-get-raises" (P := fun w => ∀ os, PySem.W.Fast.tw10110043849684766642 PySem.W.Fast.tw14364793385576792824 PySem.Challenge.pw_ku0043_01 (w) 28 (some (.ref 6)) 1 999 (S7 PySem.Challenge.pw_ku0043_01 (World.params (w)) os) (piecesOf (stE PySem.Challenge.pw_ku0043_01 8 1) (envE PySem.Challenge.pw_ku0043_01) (cE PySem.Challenge.pw_ku0043_01) pos7 [topFrame q0]) = some (Flow.next, S8 PySem.Challenge.pw_ku0043_01 (World.params (w)) os, cE PySem.Challenge.pw_ku0043_01, pos8)) (fun w os => ?_) (fun w os => ?_) w
  · kernel_rfl
  · kernel_rfl

theorem p9 (w : World) (os : OsState) : PySem.W.Fast.tw10110043849684766642 PySem.W.Fast.tw14364793385576792824 PySem.Challenge.pw_ku0043_01 (w) 28 (some (.ref 6)) 1 30 (S8 PySem.Challenge.pw_ku0043_01 (World.params (w)) os) (piecesOf (stE PySem.Challenge.pw_ku0043_01 9 1) (envE PySem.Challenge.pw_ku0043_01) (cE PySem.Challenge.pw_ku0043_01) pos8 [topFrame q0]) = some (Flow.next, S9 PySem.Challenge.pw_ku0043_01 (World.params (w)) os, cE PySem.Challenge.pw_ku0043_01, pos9) := by
  kernel_rfl

theorem p11 (w : World) (os : OsState) : PySem.W.Fast.tw10110043849684766642 PySem.W.Fast.tw14364793385576792824 PySem.Challenge.pw_ku0043_01 (w) 28 (some (.ref 6)) 1 31 (S10 PySem.Challenge.pw_ku0043_01 (World.params (w)) os) (piecesOf (stE PySem.Challenge.pw_ku0043_01 11 1) (envE PySem.Challenge.pw_ku0043_01) (cE PySem.Challenge.pw_ku0043_01) pos10 [topFrame q0]) = some (Flow.next, S11 PySem.Challenge.pw_ku0043_01 (World.params (w)) os, cE PySem.Challenge.pw_ku0043_01, pos11) := by
  kernel_rfl

theorem p12 (w : World) (os : OsState) : PySem.W.Fast.tw10110043849684766642 PySem.W.Fast.tw14364793385576792824 PySem.Challenge.pw_ku0043_01 (w) 28 (some (.ref 6)) 1 775 (S11 PySem.Challenge.pw_ku0043_01 (World.params (w)) os) (piecesOf (stE PySem.Challenge.pw_ku0043_01 12 1) (envE PySem.Challenge.pw_ku0043_01) (cE PySem.Challenge.pw_ku0043_01) pos11 [topFrame q0]) = some (Flow.next, S12 PySem.Challenge.pw_ku0043_01 (World.params (w)) os, cE PySem.Challenge.pw_ku0043_01, pos12) := by
  revert os
  refine byRow2 "special-get-raises" (P := fun w => ∀ os, PySem.W.Fast.tw10110043849684766642 PySem.W.Fast.tw14364793385576792824 PySem.Challenge.pw_ku0043_01 (w) 28 (some (.ref 6)) 1 775 (S11 PySem.Challenge.pw_ku0043_01 (World.params (w)) os) (piecesOf (stE PySem.Challenge.pw_ku0043_01 12 1) (envE PySem.Challenge.pw_ku0043_01) (cE PySem.Challenge.pw_ku0043_01) pos11 [topFrame q0]) = some (Flow.next, S12 PySem.Challenge.pw_ku0043_01 (World.params (w)) os, cE PySem.Challenge.pw_ku0043_01, pos12)) (fun w os => ?_) (fun w os => ?_) w
  · kernel_rfl
  · kernel_rfl

theorem p13 (w : World) (os : OsState) : PySem.W.Fast.tw10110043849684766642 PySem.W.Fast.tw14364793385576792824 PySem.Challenge.pw_ku0043_01 (w) 28 (some (.ref 6)) 1 285 (S12 PySem.Challenge.pw_ku0043_01 (World.params (w)) os) (piecesOf (stE PySem.Challenge.pw_ku0043_01 13 11) (envE PySem.Challenge.pw_ku0043_01) (cE PySem.Challenge.pw_ku0043_01) pos12 [topFrame q0]) = some (Flow.next, S23 PySem.Challenge.pw_ku0043_01 (World.params (w)) os, cE PySem.Challenge.pw_ku0043_01, pos23) := by
  kernel_rfl
end Mine
end
section
open PySem PySem.W PyProof.Rows
set_option maxRecDepth 100000
namespace Mine

theorem d_step (i k : Nat) : stE tw i k ++ (bodyE tw).drop (i + k) = (bodyE tw).drop i := by
  unfold stE
  rw [← List.drop_drop]
  exact List.take_append_drop k _
theorem d_end : (bodyE tw).drop 24 = [] := by kernel_rfl
theorem d_ten : (bodyE tw).drop 10 = s10 :: (bodyE tw).drop 11 := by kernel_rfl
theorem d_all : (bodyE tw).drop 0 = behindTheImports tw := rfl
theorem run_all (w : World) (os : OsState) : topRun treeTable tw w 28 A6 100000 (S0 tw (World.params w) os).abs (topStub tw) = some (Sf tw (World.params w) os).abs := by
  have seg : ∀ {n : Nat} {s s' : SharedT} {t : Thread} {f : Flow} {c : Code} {q : Pos}, PySem.W.Fast.tw10110043849684766642 PySem.W.Fast.tw14364793385576792824 tw w 28 A6 1 n s t = some (f, s', c, q) → segRun treeTable tw w 28 A6 1 n s.abs t = some (f, s'.abs, c, q) := fun h => segRun_of (by rw [seg_eq, tb_eq]; exact h)
  have r24 : topRun treeTable tw w 28 A6 2 (S23 tw (World.params w) os).abs (restOf ((bodyE tw).drop 24) (envE tw) (cE tw) pos23 [topFrame q0]) = some (Sf tw (World.params w) os).abs := by
    rw [d_end]; exact piece_nil (p_fin w os)
  have r13 := piece_app (seg (p13 w os)) r24
  rw [show (24 : Nat) = 13 + 11 from rfl, d_step 13 11] at r13
  have r12 := piece_app (seg (p12 w os)) r13
  rw [show (13 : Nat) = 12 + 1 from rfl, d_step 12 1] at r12
  have r11 := piece_app (seg (p11 w os)) r12
  rw [show (12 : Nat) = 11 + 1 from rfl, d_step 11 1] at r11
  have r10 := run10 r11
  rw [← d_ten] at r10
  have r9 := piece_app (seg (p9 w os)) r10
  rw [show (10 : Nat) = 9 + 1 from rfl, d_step 9 1] at r9
  have r8 := piece_app (seg (p8 w os)) r9
  rw [show (9 : Nat) = 8 + 1 from rfl, d_step 8 1] at r8
  have r0 := piece_app (seg (p0_7 w os)) r8
  rw [show (8 : Nat) = 0 + 8 from rfl, d_step 0 8] at r0
  have rb := piece_block (p_block w os) r0
  have ra := go_top (p_pre' w os) rb
  have := topRun_mono 58353 _ _ _ _ ra
  exact Eq.trans (congrArg (fun n => topRun treeTable tw w 28 A6 n (S0 tw (World.params w) os).abs (topStub tw)) (by decide)) this
def keepL : List Nat := [0, 2, 3, 5, 6, 7, 9, 10, 12, 13, 14, 16, 17, 18, 19, 20, 21, 22, 23, 24]
abbrev looseL : List Str := ["Flags", "UNKNOWN", "b1_set", "b3_exceptions", "c8_set"]
def viewQ (p : Program) : Program := view p keepL
def XtQ (p : Program) (s : Shared) : Bool := xlAt (viewQ p) [] s && recOk [] s
theorem look1 (w : World) (os : OsState) : (staticsOk (importedModules tw.main.body) (absHeap (tr_0 tw (World.params w)) 28 {}) (absHeap (tr_f tw (World.params w)) 211 {}) && namesBound tw (absHeap (tr_f tw (World.params w)) 211 {}) && gensDone (Sf tw (World.params w) os).abs && laidKept (absHeap (tr_0 tw (World.params w)) 28 {}) (absHeap (tr_f tw (World.params w)) 211 {})) = true := by kernel_rfl
theorem look3 (w : World) (os : OsState) : kAddrs.map (Sf tw (World.params w) os).abs.heap.get? = (kOfq tw (World.params w)).map fun p => some p.2 := by kernel_rfl
theorem look2 (w : World) (os : OsState) : PySem.W.Fast.tw4187177175401517315 (viewQ tw) looseL (importedModules tw.main.body) (XtQ tw) true (Sf tw (World.params w) os).abs = openGood (viewQ tw) looseL := by kernel_rfl
end Mine
end
section
open PySem PySem.W PyProof.Rows
set_option maxRecDepth 100000
namespace Mine

theorem p_fence' (w : World) : (fun os => (fenceModules? tw ⟨absHeap (tr_e tw (World.params w)) 28 {}, ⟨[]⟩, {}, 276, os⟩).map (fun s => (s.heap, s.gens, s.drawn, s.toks))) =
    fun _ => some (absHeap (tr_0 tw (World.params w)) 28 {}, ⟨[]⟩, {}, 276) := by
  rw [PySem.W.Fast.te14289696077712309145]
  exact p_fence w
theorem left_tw : LeftO tw (viewQ tw) looseL (XtQ tw) (fun s => kAddrs.map s.heap.get?) (fun w => (kOfq tw w.params).map fun p => some p.2) 100000 := by
  refine LeftO.of_pieces (H₀ := fun P => absHeap (tr_0 tw P) 28 {}) (H₁ := fun P => absHeap (tr_f tw P) 211 {}) (gs₀ := ⟨[]⟩) (gs₁ := ⟨[]⟩) (d₀ := {}) (d₁ := {}) (k₀ := 276) (k₁ := 2521) (m₀ := 28) (ann := A6) (M := 100000)
    (open_cut (N := 100000) (He := fun P => absHeap (tr_e tw P) 28 {}) (H₀ := fun P => absHeap (tr_0 tw P) 28 {}) (ge := ⟨[]⟩) (g₀ := ⟨[]⟩) (de := {}) (d₀ := {}) (ke := 276) (k₀ := 276) (M := 799) p_open' rfl p_fence') p_size (fun w os => run_all w os) rfl (fun w => funext fun os => ?_)
  refine Prod.ext (look1 w os) (Prod.ext ?_ (look3 w os))
  show openSeen (viewQ tw) looseL (importedModules tw.main.body) (XtQ tw) true (Sf tw (World.params w) os).abs = openGood (viewQ tw) looseL
  rw [PySem.W.Fast.te4187177175401517315]
  exact look2 w os
theorem k_addrs (P : Params) : kAddrs = (K P).map (·.1) := rfl
theorem left_pw : LeftO PySem.Challenge.pw_ku0043_01 (viewQ PySem.Challenge.pw_ku0043_01) looseL (XtQ PySem.Challenge.pw_ku0043_01) (kHook K kAddrs k_addrs).obs (kHook K kAddrs k_addrs).val 100000 := by
  have h : ∀ p, p = tw → LeftO p (viewQ p) looseL (XtQ p) (fun s => kAddrs.map s.heap.get?) (fun w => (kOfq p w.params).map fun p => some p.2) 100000 := by
    rintro _ rfl
    exact left_tw
  exact h _ tw_eq
end Mine
end
section
open PySem PySem.W PyProof.Rows
set_option maxRecDepth 100000
namespace Mine
abbrev pw : Program := PySem.Challenge.pw_ku0043_01
/-- what is known of the top -/
structure Tp (w : World) (mean : ExcName → Option Value) (mg mb : Str → Option Value) (h : Heap) : Prop where
  X : (K w.params).In h
  T : Top (viewQ pw) (looseW (viewQ pw) looseL) mean mg mb h
theorem Tp.keeps {w : World} {mean : ExcName → Option Value} {mg mb : Str → Option Value} {h h' : Heap} (x : Tp w mean mg mb h) (k : ∀ b o, h.get? b = some o → h'.get? b = some o) : Tp w mean mg mb h' :=
  ⟨x.X.keeps k, x.T.keeps k⟩
abbrev Ar (dp un : Nat) (fr : Option (List Env)) (gd : Option (List Code)) : Around := { handled := none, depth := dp, frames := fr, guards := gd, units := un }
/-- the contract of a def: it comes back with v, all that stood stands -/
def Spec (w : World) (f : Addr) (vs : List Value) (D U : Nat) (pre : Heap → Prop) (post : Heap → Value → Heap → Prop) : Prop :=
  ∀ (mean : ExcName → Option Value) (mg mb : Str → Option Value) (dp un : Nat) (fr : Option (List Env)) (gd : Option (List Code)) (s : Shared) (Q E : Value → Shared → Prop), Tp w mean mg mb s.heap → pre s.heap → dp + D < recursionLimit → un + U < cLine →
    (∀ v h' tk', (∀ b o, s.heap.get? b = some o → h'.get? b = some o) → post s.heap v h' → Q v { s with heap := h', toks := tk' }) →
    wpAny (model pw w) (Ar dp un fr gd) (call (.ref f) vs) Q E s

theorem K_get {w : World} {h : Heap} (X : (K w.params).In h) {a : Addr} {o : Obj} (e : (K w.params).lookup a = some o) : h.get? a = some o := X a o e
theorem code_of {w : World} {h : Heap} (X : (K w.params).In h) {c : Addr} {q : Str} (e : codeIn (K w.params) (.ref c) q = true) : h.CodeRec (.ref c) q := codeRec_of X e

/-- into a def of the text -/
theorem enter {w : World} {mean : ExcName → Option Value} {mg mb : Str → Option Value} {dp un : Nat} {fr : Option (List Env)} {gd : Option (List Code)} {s : Shared} {Q E : Value → Shared → Prop} {f : Addr} {o : Obj}
    {name : Str} {params : Arguments} {body : List Stmt} {scope : Scope} {pm cd doc : Value} {args : List Value} {binds : List (Str × Value)}
    (tp : Tp w mean mg mb s.heap) (hd : dp + 1 ≤ recursionLimit) (ho : (K w.params).lookup f = some o) (hdata : o.data = .func (Calls.docDef name params body scope pm cd doc)) (hcd : codeIn (K w.params) cd name = true)
    (hbind : bindArgs (Calls.docDef name params body scope pm cd doc) ⟨args, []⟩ = pure binds)
    (hkind : ∀ x ∈ binds, scope.names.lookup x.1 = some .local ∨ (scope.names.lookup x.1 = some .cell ∧ ((cellsFrom (s.heap.objs.size + 1) scope.names []).lookup x.1).isSome = true))
    (h : ∀ h₁ tk, Fr s.heap s.heap.objs.size h₁ (bindL (envOfC name scope s.heap.objs.size f cd).kindOf binds fun _ => none) →
      Cl s.heap.objs.size (cellsFrom (s.heap.objs.size + 1) scope.names []) h₁ (bindC (envOfC name scope s.heap.objs.size f cd).kindOf binds fun _ => none) →
      wpAny (model pw w) ((Ar dp un fr gd).deeper (envOfC name scope s.heap.objs.size f cd)) (execs body (envOfC name scope s.heap.objs.size f cd))
        (fun f s' => Q (match f with | .ret v => v | _ => .none) s') (fun _ _ => False) { s with heap := h₁, toks := tk })
    (hco : scope.isCoroutine = false := by rfl) (hgen : scope.isGenerator = false := by rfl) (hk : scope.kind = .function := by rfl) :
    wpAny (model pw w) (Ar dp un fr gd) (call (.ref f) args) Q E s :=
  wpAny_call (call_cells_ret hd (K_get tp.X ho) hdata tp.T.nolimit (codeRec_of tp.X hcd) hbind hkind h hco hgen hk)
end Mine
namespace Mine
section
variable {w : World} {mean : ExcName → Option Value} {mg mb : Str → Option Value} {dp un : Nat} {fr : Option (List Env)} {gd : Option (List Code)} {s : Shared} {Q E : Value → Shared → Prop} {f : Addr} {o : Obj}
    {name : Str} {params : Arguments} {body : List Stmt} {scope : Scope} {pm cd doc : Value} {args : List Value} {binds : List (Str × Value)}
theorem enterP
    (tp : Tp w mean mg mb s.heap) (hd : dp < recursionLimit) (ho : (K w.params).lookup f = some o) (hdata : o.data = .func (Calls.docDef name params body scope pm cd doc)) (hcd : codeIn (K w.params) cd name = true)
    (hbind : bindArgs (Calls.docDef name params body scope pm cd doc) ⟨args, []⟩ = pure binds)
    (hloc : ∀ x ∈ binds, scope.names.lookup x.1 = some .local)
    (h : ∀ h₁ tk, Fr s.heap s.heap.objs.size h₁ (fun x => binds.reverse.lookup x) → News s.heap s.heap.objs.size h₁ [] →
      wpAny (model pw w) ((Ar dp un fr gd).deeper (envOf name scope s.heap.objs.size f cd)) (execs body (envOf name scope s.heap.objs.size f cd))
        (fun f s' => Q (match f with | .ret v => v | _ => .none) s') (fun _ _ => False) { s with heap := h₁, toks := tk })
    (hco : scope.isCoroutine = false := by rfl) (hgen : scope.isGenerator = false := by rfl) (hk : scope.kind = .function := by rfl) (hcell : ∀ x ∈ scope.names, x.2 ≠ .cell := by decide) :
    wpAny (model pw w) (Ar dp un fr gd) (call (.ref f) args) Q E s :=
  wpAny_call (call_plain_ret hd (K_get tp.X ho) hdata tp.T.nolimit (codeRec_of tp.X hcd) hbind hloc (fun h₁ F => h h₁ _ F News.nil) hco hgen hk hcell)
theorem enterC
    (tp : Tp w mean mg mb s.heap) (hd : dp < recursionLimit) (ho : (K w.params).lookup f = some o) (hdata : o.data = .func (Calls.docDef name params body scope pm cd doc)) (hcd : codeIn (K w.params) cd name = true)
    (hbind : bindArgs (Calls.docDef name params body scope pm cd doc) ⟨args, []⟩ = pure binds)
    (hkind : (binds.all fun y => scope.names.lookup y.1 == some .local || scope.names.lookup y.1 == some .cell) = true)
    (hnd : ((cellsFrom 0 scope.names []).map (·.1)).Nodup)
    (h : ∀ h₁ tk cells, Fr s.heap s.heap.objs.size h₁ (bindL (envOfC name scope s.heap.objs.size f cd).kindOf binds fun _ => none) → News s.heap s.heap.objs.size h₁ cells →
      CellsAre (bindC (envOfC name scope s.heap.objs.size f cd).kindOf binds fun _ => none) (cellsFrom (s.heap.objs.size + 1) scope.names []) cells →
      wpAny (model pw w) ((Ar dp un fr gd).deeper (envOfC name scope s.heap.objs.size f cd)) (execs body (envOfC name scope s.heap.objs.size f cd))
        (fun f s' => Q (match f with | .ret v => v | _ => .none) s') (fun _ _ => False) { s with heap := h₁, toks := tk })
    (hco : scope.isCoroutine = false := by rfl) (hgen : scope.isGenerator = false := by rfl) (hk : scope.kind = .function := by rfl) :
    wpAny (model pw w) (Ar dp un fr gd) (call (.ref f) args) Q E s :=
  wpAny_call (call_cellsN_ret hd (K_get tp.X ho) hdata tp.T.nolimit (codeRec_of tp.X hcd) hbind (kindsX hkind _) hnd h hco hgen hk)
end
end Mine
end
section
open PySem PySem.W PyProof.Rows
set_option maxRecDepth 100000
namespace Mine
theorem filled_wt : PySem.Challenge.rw_ku0043_01 = PySem.Challenge.rw_ku0043_01 ∧ K = K := by
  k_fill
  exact ⟨rfl, rfl⟩
/-- a one-sign text -/
abbrev one (n : Nat) : Str := ⟨⟨[n]⟩⟩
def b1L : List Nat := [173, 847, 6150, 6155, 6156, 6157, 8203, 8204, 8205, 8288, 65279, 65024, 65025, 65026, 65027, 65028, 65029, 65030, 65031, 65032, 65033, 65034, 65035, 65036, 65037, 65038, 65039]
def c8L : List Nat := [832, 833, 8206, 8207, 8234, 8235, 8236, 8237, 8238, 8298, 8299, 8300, 8301, 8302, 8303]
def setInts (o : Obj) : List Int := match o.data with
  | .set es _ _ => es.toList.map (·.1)
  | _ => []
def setGood : List (Int × Value) → Bool
  | [] => true
  | (h, .int i _) :: r => h == i && decide (0 ≤ i) && decide (i < 2000000) && setGood r
  | _ => false
theorem hash_small {i : Int} (h0 : 0 ≤ i) (h1 : i < 2000000) : i = hashInt i := by
  have hr : rawHash i = i := by
    unfold rawHash
    have e : (i.natAbs : Int) = i := Int.natAbs_of_nonneg h0
    have e2 : i % ((2 ^ 61 - 1 : Nat) : Int) = i := Int.emod_eq_of_lt h0 (Int.lt_trans h1 (by decide))
    simp only [e, e2]
    rw [if_neg (show ¬ i < 0 by omega)]
    exact if_neg (by simp; omega)
  unfold hashInt
  rw [hr, if_neg (by simp; omega)]
theorem setGood_elems {p : Program} {w : World} : ∀ {es : List (Int × Value)}, setGood es = true → ElemsOf (intKind p w) es
  | [], _ => fun e he => nomatch he
  | (h, .int i t) :: r, g => by
    simp only [setGood, Bool.and_eq_true, beq_iff_eq, decide_eq_true_eq] at g
    obtain ⟨⟨⟨a, b⟩, c⟩, d⟩ := g
    subst a
    intro e he
    rcases List.mem_cons.mp he with rfl | he
    · exact ⟨⟨h, by simp [intKind, Value.isInt], hash_small b c⟩, rfl⟩
    · exact setGood_elems d e he
theorem setGood_mem {p : Program} {w : World} {k : Int} : ∀ {es : List (Int × Value)}, setGood es = true → ((es.map (·.1)).contains k = true ↔ ∃ e ∈ es, (intKind p w).is k e.2 = true)
  | [], _ => by simp
  | (h, .int i t) :: r, g => by
    simp only [setGood, Bool.and_eq_true, beq_iff_eq, decide_eq_true_eq] at g
    obtain ⟨⟨⟨a, b⟩, c⟩, d⟩ := g
    subst a
    have := setGood_mem (p := p) (w := w) (k := k) d
    rw [List.map_cons, List.contains_cons, Bool.or_eq_true, this]
    constructor
    · rintro (e | ⟨e, he, q⟩)
      · exact ⟨_, .head _, by simp only [beq_iff_eq] at e; subst e; simp [intKind, Value.isInt]⟩
      · exact ⟨e, .tail _ he, q⟩
    · rintro ⟨e, he, q⟩
      rcases List.mem_cons.mp he with rfl | he
      · left
        simp [intKind, Value.isInt] at q
        simp [q]
      · exact .inr ⟨e, he, q⟩
theorem setOf_good {p : Program} {w : World} {h : Heap} {a : Addr} {es : List (Int × Value)} {ep : Nat} {t : SetTable} (ho : h.get? a = some { cls := .type "set", dict := none, data := .set ⟨es⟩ ep t, slots := ⟨[]⟩ })
    (g : setGood es = true) (hz : es.length < scanBound) (hf : t.fits es.length = true) : h.SetOf (intKind p w) a (fun k : Int => (es.map (·.1)).contains k) es.length :=
  ⟨_, ⟨es⟩, ep, t, ho, ⟨rfl, rfl, rfl⟩, rfl, setGood_elems g, fun k => setGood_mem g, hz, hf, rfl⟩

theorem set_same (E : List Int) (L : List Nat) (h1 : (E.all fun x => decide (0 ≤ x) && L.contains x.toNat) = true) (h2 : (L.all fun m => E.contains (m : Int)) = true) (n : Nat) : E.contains (n : Int) = decide (n ∈ L) := by
  rw [Bool.eq_iff_iff, decide_eq_true_eq, List.contains_iff_mem]
  constructor
  · intro h
    have := List.all_eq_true.mp h1 _ h
    simpa using this
  · intro h
    have := List.all_eq_true.mp h2 _ h
    simpa using this
theorem b1_of {w : World} {h : Heap} (X : (K w.params).In h) : ∃ S : Int → Bool, h.SetOf (intKind pw w) 81 S 27 ∧ ∀ n : Nat, S n = decide (n ∈ b1L) := by
  refine ⟨_, setOf_good (X 81 _ rfl) (by decide +kernel) (by decide +kernel) (by kernel_rfl), fun n => ?_⟩
  exact set_same _ b1L (by decide +kernel) (by decide +kernel) n
theorem c8_of {w : World} {h : Heap} (X : (K w.params).In h) : ∃ S : Int → Bool, h.SetOf (intKind pw w) 151 S 15 ∧ ∀ n : Nat, S n = decide (n ∈ c8L) := by
  refine ⟨_, setOf_good (X 151 _ rfl) (by decide +kernel) (by decide +kernel) (by kernel_rfl), fun n => ?_⟩
  exact set_same _ c8L (by decide +kernel) (by decide +kernel) n
set_option maxHeartbeats 4000000
set_option pp.maxSteps 20000
set_option pp.deepTerms false
set_option pp.deepTerms.threshold 6
theorem spec_b1 (w : World) (n : Nat) (t : Nat) : Spec w 91 [.str (one n) t] 1 10 (fun _ => True) (fun _ v _ => v = .bool (decide (n ∈ b1L))) := by
  intro mean mg mb dp un fr gd s Q E tp hp hd hu hq
  have KX : (K w.params).In s.heap := tp.X
  have T := tp.T
  refine enterP (scope := fScope (stAt pw 10)) (params := fArgs (stAt pw 10)) (body := fBody (stAt pw 10)) tp (Nat.lt_of_succ_lt hd) rfl rfl (by rfl) (by rfl) (locs (by rfl)) ?_ (by rfl) (by rfl) (by rfl) (by decide +kernel)
  intro h₁ tk F N
  conv in (fBody _) => whnf
  k_steps
  obtain ⟨S, hS, hn⟩ := b1_of (KX.keeps F.keep)
  refine wpAny_inSet_of (knd := intKind pw w) (k := (n : Int)) (by simp [intKind, Value.isInt]) rfl hS ?_
  rw [hn]
  exact hq _ _ _ F.keep rfl
theorem spec_c8 (w : World) (n : Nat) (t : Nat) : Spec w 161 [.str (one n) t] 1 10 (fun _ => True) (fun _ v _ => v = .bool (decide (n ∈ c8L))) := by
  intro mean mg mb dp un fr gd s Q E tp hp hd hu hq
  have KX : (K w.params).In s.heap := tp.X
  have T := tp.T
  refine enterP (scope := fScope (stAt pw 14)) (params := fArgs (stAt pw 14)) (body := fBody (stAt pw 14)) tp (Nat.lt_of_succ_lt hd) rfl rfl (by rfl) (by rfl) (locs (by rfl)) ?_ (by rfl) (by rfl) (by rfl) (by decide +kernel)
  intro h₁ tk F N
  conv in (fBody _) => whnf
  k_steps
  obtain ⟨S, hS, hn⟩ := c8_of (KX.keeps F.keep)
  refine wpAny_inSet_of (knd := intKind pw w) (k := (n : Int)) (by simp [intKind, Value.isInt]) rfl hS ?_
  rw [hn]
  exact hq _ _ _ F.keep rfl
/-- the table of b3 -/
def look (L : List (Int × Str)) (k : Int) : Option Str := (L.find? fun x => x.1 == k).map (·.2)
theorem look_ents {p : Program} {w : World} (step : Nat) (k : Int) : ∀ (L : List (Int × Str)) (t : Nat), match look L k with
    | some s => ∃ t', ((ents step t L).find? fun e => (intKind p w).is k e.key).map (·.val) = some (.str s t')
    | none => ((ents step t L).find? fun e => (intKind p w).is k e.key).map (·.val) = none
  | [], _ => rfl
  | (i, s) :: L, t => by
    have ih := look_ents (p := p) (w := w) step k L (t + step)
    unfold look at ih ⊢
    unfold ents
    simp only [List.find?_cons]
    have e : (intKind p w).is k (.int i t) = (i == k) := by
      show Value.isInt k (.int i t) = _
      simp [Value.isInt]
    rw [e]
    cases h : (i == k)
    · exact ih
    · exact ⟨_, rfl⟩
theorem keysOf_ents {p : Program} {w : World} (step : Nat) : ∀ (L : List (Int × Str)) (t : Nat), (∀ x ∈ L, 0 ≤ x.1 ∧ x.1 < 2000000) → ∀ e ∈ ents step t L, ∃ k, (intKind p w).is k e.key = true ∧ e.hash = (intKind p w).hash k
  | [], _, _ => fun e he => nomatch he
  | (i, s) :: L, t, g => by
    intro e he
    unfold ents at he
    rcases List.mem_cons.mp he with rfl | he
    · exact ⟨i, by simp [intKind, Value.isInt], hash_small (g _ (.head _)).1 (g _ (.head _)).2⟩
    · exact keysOf_ents step L _ (fun x hx => g x (.tail _ hx)) e he


theorem tab_pw : tab pw = tab tw := by
  have h : ∀ p, p = tw → tab p = tab tw := by rintro _ rfl; rfl
  exact h _ tw_eq
theorem b3_of {w : World} {h : Heap} (X : (K w.params).In h) : ∃ f : Int → Option Value, h.MapOf (intKind pw w) 92 f ∧ ∀ k, match look (tab pw) k with
    | some s => ∃ t', f k = some (.str s t')
    | none => f k = none := by
  refine ⟨fun k => findBy (intKind pw w).is ⟨entsAll pw⟩ k, ⟨_, _, _, X 92 _ rfl, ⟨rfl, rfl, rfl⟩, rfl, ?_, fun k => rfl⟩, fun k => ?_⟩
  · intro e he
    have he : e ∈ entsAll pw := by simpa using he
    have g : ∀ x ∈ tab pw, 0 ≤ x.1 ∧ x.1 < 2000000 := by rw [tab_pw]; exact fun x hx => ⟨(tab_keys.1 x hx).1, (tab_keys.1 x hx).2.1⟩
    rcases List.mem_append.mp he with he | he
    · exact keysOf_ents 3 _ _ (fun x hx => g x (List.mem_of_mem_drop (List.mem_of_mem_take hx))) e he
    · exact keysOf_ents 2 _ _ (fun x hx => g x (List.mem_of_mem_drop hx)) e he
  · have e : (tab pw) = ((tab pw).drop 0).take 646 ++ (tab pw).drop 646 := (List.take_append_drop 646 _).symm
    have h1 := look_ents (p := pw) (w := w) 3 k (((tab pw).drop (0 : Nat)).take 646) (450 + 3 * 0)
    have h2 := look_ents (p := pw) (w := w) 2 k ((tab pw).drop 646) 2388
    have e2 : look (tab pw) k = (look (((tab pw).drop (0 : Nat)).take 646) k).or (look ((tab pw).drop 646) k) := by
      conv => lhs; rw [e]
      unfold look
      rw [List.find?_append, Option.map_or]
    have e3 : findBy (intKind pw w).is ⟨entsAll pw⟩ k = (((entsOf pw 0 646).find? fun e => (intKind pw w).is k e.key).map (·.val)).or (((entsLast pw).find? fun e => (intKind pw w).is k e.key).map (·.val)) := by
      show Option.map _ (Array.find? _ _) = _
      rw [List.find?_toArray]
      unfold entsAll
      rw [List.find?_append, Option.map_or]
    rw [e2]
    simp only [e3]
    cases l1 : look (((tab pw).drop (0 : Nat)).take 646) k with
    | some s =>
      rw [l1] at h1
      obtain ⟨t', h1⟩ := h1
      exact ⟨t', by rw [show ((entsOf pw 0 646).find? fun e => (intKind pw w).is k e.key).map (·.val) = _ from h1]; rfl⟩
    | none =>
      rw [l1] at h1
      have h1' : ((entsOf pw 0 646).find? fun e => (intKind pw w).is k e.key).map (·.val) = none := h1
      rw [h1']
      cases l2 : look ((tab pw).drop 646) k with
      | some s =>
        rw [l2] at h2
        obtain ⟨t', h2⟩ := h2
        exact ⟨t', by rw [show ((entsLast pw).find? fun e => (intKind pw w).is k e.key).map (·.val) = _ from h2]; rfl⟩
      | none =>
        rw [l2] at h2
        exact h2
def startsL : List Nat := [65, 97, 119808, 119860, 119912, 120016, 120172, 120224, 120276, 120328, 120380, 120432]
def goodS : List (Nat × Nat) := startsL.flatMap fun r => [(r + 18, 115), (r, 97), (r + 5, 102), (r + 3, 100)]
theorem good_tab : (goodS.all fun p => match look (tab tw) p.1 with | some s => s == one p.2 | none => Txt.lower (one p.1) == one p.2) = true := by kernel_rfl
theorem spec_b3 (w : World) (n d : Nat) (t : Nat) (g : (n, d) ∈ goodS) : Spec w 137 [.str (one n) t] 1 10 (fun _ => True) (fun _ v _ => ∃ t', v = .str (one d) t') := by
  intro mean mg mb dp un fr gd s Q E tp hp hd hu hq
  have KX : (K w.params).In s.heap := tp.X
  have T := tp.T
  refine enterP (scope := fScope (stAt pw 12)) (params := fArgs (stAt pw 12)) (body := fBody (stAt pw 12)) tp (Nat.lt_of_succ_lt hd) rfl rfl (by rfl) (by rfl) (locs (by rfl)) ?_ (by rfl) (by rfl) (by rfl) (by decide +kernel)
  intro h₁ tk F N
  conv in (fBody _) => whnf
  k_steps
  obtain ⟨f, M, hf⟩ := b3_of (KX.keeps F.keep)
  refine getMethod_builtin M.typeIs PySem.F.plainAttrs_dict PySem.F.slot_dict_get PySem.F.type_dict_get M.noDict ?_
  k_steps
  refine call_meetsIn PySem.F.slot_dict_get M.typeIs PySem.F.entry_dict_get (PySem.F.args_dict_get_2 _ _) (meets_dict_get (intKind pw w) 92 (k := (n : Int)) (by simp [intKind, Value.isInt]) (by decide)) ⟨_, M, ?_⟩
  have hfn := hf n
  have hg := List.all_eq_true.mp good_tab _ g
  rw [tab_pw] at hfn
  dsimp only at hg
  cases hl : look (tab tw) (n : Int) with
  | some x =>
    rw [hl] at hfn hg
    obtain ⟨t', hfn⟩ := hfn
    have hx : x = one d := eq_of_beq hg
    subst hx
    rw [hfn]
    dsimp only [Option.getD]
    k_steps
    exact hq _ _ _ (Fr.keep (by assumption)) ⟨_, rfl⟩
  | none =>
    rw [hl] at hfn hg
    have hx : Txt.lower (one n) = one d := eq_of_beq hg
    rw [hfn]
    dsimp only [Option.getD]
    k_steps
    refine SC.lower (by rw [hx]; rfl) ?_
    rw [hx]
    exact hq _ _ _ (Fr.keep (by assumption)) ⟨_, rfl⟩
end Mine
end
section
open PySem PySem.W PyProof.Rows
set_option maxRecDepth 100000
namespace Mine
theorem filled_wm : PySem.Challenge.rw_ku0043_01 = PySem.Challenge.rw_ku0043_01 ∧ K = K := by
  k_fill
  exact ⟨rfl, rfl⟩
def meetIn (mail : Int) (f : List Int) (one : Int) : List Int := if Builtin.bitAnd one mail ∈ f then f else f ++ [Builtin.bitAnd one mail]
def meetsIn (f : List Int) (mail : Int) : List Int := f.foldl (meetIn mail) f
def meetsL (ns : List Int) : List Int := ns.foldl meetsIn [15]
/-- four bits -/
def Bits (ns : List Int) : Prop := ∀ n ∈ ns, 0 ≤ n ∧ n < 16
theorem and_bits {a b : Int} (ha : 0 ≤ a ∧ a < 16) (hb : 0 ≤ b ∧ b < 16) : 0 ≤ Builtin.bitAnd a b ∧ Builtin.bitAnd a b < 16 := by
  have h : ∀ x : Fin 16, ∀ y : Fin 16, 0 ≤ Builtin.bitAnd (x.val : Int) (y.val : Int) ∧ Builtin.bitAnd (x.val : Int) (y.val : Int) < 16 := by decide +kernel
  have := h ⟨a.toNat, by omega⟩ ⟨b.toNat, by omega⟩
  rwa [show ((⟨a.toNat, by omega⟩ : Fin 16).val : Int) = a by show ((a.toNat : Nat) : Int) = a; omega, show ((⟨b.toNat, by omega⟩ : Fin 16).val : Int) = b by show ((b.toNat : Nat) : Int) = b; omega] at this
theorem room : ∀ (n : Nat) (f : List Int), (∀ x ∈ f, 0 ≤ x ∧ x < (n : Int)) → f.Nodup → f.length ≤ n
  | 0, [], _, _ => Nat.le_refl _
  | 0, x :: _, h, _ => absurd (h x (.head _)) (by omega)
  | n + 1, f, h, d => by
    by_cases hm : (n : Int) ∈ f
    · have h1 := room n (f.erase (n : Int)) (fun x hx => by
        have h2 := (List.Nodup.mem_erase_iff d).mp hx
        have h3 := h x h2.2
        have h4 := h2.1
        omega) (d.erase _)
      rw [List.length_erase_of_mem hm] at h1
      omega
    · have h1 := room n f (fun x hx => by
        have h3 := h x hx
        have h4 : x ≠ (n : Int) := fun e => hm (e ▸ hx)
        omega) d
      omega
theorem bits_len {f : List Int} (hb : Bits f) (hn : f.Nodup) : f.length ≤ 16 := room 16 f hb hn
theorem nodup_one (x : Int) : [x].Nodup := List.nodup_cons.mpr ⟨(fun h => nomatch h), List.nodup_nil⟩
def Good (f : List Int) : Prop := Bits f ∧ f.Nodup
theorem meetIn_good {m n : Int} {f : List Int} (hm : 0 ≤ m ∧ m < 16) (hn : 0 ≤ n ∧ n < 16) (g : Good f) : Good (meetIn m f n) := by
  unfold meetIn
  split
  · exact g
  · rename_i h
    refine ⟨fun x hx => ?_, ?_⟩
    · rcases List.mem_append.mp hx with hx | hx
      · exact g.1 x hx
      · rw [List.mem_singleton.mp hx]; exact and_bits hn hm
    · refine List.nodup_append.mpr ⟨g.2, nodup_one _, fun a ha b hb e => h ?_⟩
      rw [← List.mem_singleton.mp hb, ← e]; exact ha
theorem fold_good {m : Int} (hm : 0 ≤ m ∧ m < 16) : ∀ (P f : List Int), Bits P → Good f → Good (P.foldl (meetIn m) f)
  | [], _, _, g => g
  | n :: P, f, hp, g => fold_good hm P _ (fun x hx => hp x (.tail _ hx)) (meetIn_good hm (hp n (.head _)) g)
theorem meetsL_good : ∀ (ns f : List Int), Bits ns → Good f → Good (ns.foldl meetsIn f)
  | [], _, _, g => g
  | n :: ns, f, hb, g => meetsL_good ns _ (fun x hx => hb x (.tail _ hx)) (fold_good (hb n (.head _)) f f g.1 g)
theorem good15 : Good [15] := ⟨fun x hx => by rw [List.mem_singleton.mp hx]; decide, nodup_one _⟩
theorem st_a {F P f : List Int} {m n : Int} (l : f.length ≤ 16) (r : f = P.foldl (meetIn m) F) (a : (f.any fun x => x == Builtin.bitAnd n m) = true) : f.length ≤ 16 ∧ f = (P ++ [n]).foldl (meetIn m) F := by
  refine ⟨l, ?_⟩
  rw [List.foldl_append, ← r]
  show f = meetIn m f n
  unfold meetIn
  obtain ⟨x, hx, e⟩ := List.any_eq_true.mp a
  rw [if_pos (eq_of_beq e ▸ hx)]
theorem st_b {ns kp kq F P R f : List Int} {m n : Int} (hb : Bits ns) (e : ns = kp ++ m :: kq) (hF : F = meetsL kp) (eF : F = P ++ n :: R) (r : f = P.foldl (meetIn m) (meetsL kp)) (a : (f.any fun x => x == Builtin.bitAnd n m) = false) :
    (f ++ [Builtin.bitAnd n m]).length ≤ 16 ∧ f ++ [Builtin.bitAnd n m] = (P ++ [n]).foldl (meetIn m) (meetsL kp) := by
  have hm : 0 ≤ m ∧ m < 16 := hb m (by rw [e]; exact List.mem_append_right _ (.head _))
  have hkp : Bits kp := fun x hx => hb x (by rw [e]; exact List.mem_append_left _ hx)
  have gF : Good (meetsL kp) := meetsL_good kp _ hkp good15
  have gP : Bits (P ++ [n]) := fun x hx => gF.1 x (by
    rw [← hF, eF]
    rcases List.mem_append.mp hx with hx | hx
    · exact List.mem_append_left _ hx
    · exact List.mem_append_right _ (by rw [List.mem_singleton.mp hx]; exact .head _))
  have h2 : f ++ [Builtin.bitAnd n m] = (P ++ [n]).foldl (meetIn m) (meetsL kp) := by
    rw [List.foldl_append, ← r]
    show _ = meetIn m f n
    unfold meetIn
    rw [if_neg]
    intro hx
    rw [List.any_eq_false] at a
    exact a _ hx (beq_self_eq_true _)
  refine ⟨?_, h2⟩
  rw [h2]
  have := fold_good hm (P ++ [n]) _ gP gF
  exact bits_len this.1 this.2
theorem st_c {kp F f : List Int} {m : Int} (hF : F = meetsL kp) (l : f.length ≤ 16) (r : f = F.foldl (meetIn m) (meetsL kp)) : f.length ≤ 16 ∧ f = meetsL (kp ++ [m]) := by
  refine ⟨l, ?_⟩
  unfold meetsL
  rw [List.foldl_append]
  show f = meetsIn (meetsL kp) m
  unfold meetsIn
  rw [r, hF]
/-- a made object comes back -/
def Fresh (h h' : Heap) (a : Addr) (o : Obj) : Prop := h.get? a = none ∧ h'.get? a = some o
theorem Fresh.of {h h' : Heap} {L : Addr} {news : List (Addr × Obj)} {a : Addr} {o : Obj} (N : News h L h' news) (hm : (a, o) ∈ news) : Fresh h h' a o := ⟨N.fresh hm, N.get hm⟩
set_option maxHeartbeats 4000000
set_option pp.maxSteps 20000
set_option pp.deepTerms false
set_option pp.deepTerms.threshold 6
def IntsAt (h : Heap) (l : Addr) (ns : List Int) : Prop := ∃ vs, h.IsList l vs.toArray ∧ IntsAre vs ns
theorem spec_meets (w : World) (l : Addr) (ns : List Int) (hb : Bits ns) : Spec w 190 [.ref l] 1 10 (fun h => IntsAt h l ns)
    (fun h v h' => ∃ a us n q, v = .ref a ∧ Fresh h h' a (W.listOf (List.toArray us) n) ∧ IntsAre us q ∧ q.Perm (meetsL ns) ∧ q.Pairwise (· ≤ ·)) := by
  intro mean mg mb dp un fr gd s Q E tp hp hd hu hq
  obtain ⟨vs, hL, hI⟩ := hp
  have KX : (K w.params).In s.heap := tp.X
  have T := tp.T
  refine enterP (scope := fScope (stAt pw 20)) (params := fArgs (stAt pw 20)) (body := fBody (stAt pw 20)) tp (by omega) rfl rfl (by rfl) (by rfl) (locs (by rfl)) ?_ (by rfl) (by rfl) (by rfl) (by decide +kernel)
  intro h₁ tk F N
  conv in (fBody _) => whnf
  iterate 12 (first | walk1 | (dsimp only; walk1))
  k_state (fun pre found => found.length ≤ 16 ∧ found = meetsL pre) "found"
  · iterate 9 (first | walk1 | (dsimp only; walk1))
    k_state (fun pre found => found.length ≤ 16 ∧ found = pre.foldl (meetIn kN) (meetsL kPre)) "found"
    · (k_with "state" => first | exact st_a (by assumption) (by assumption) (by assumption) | exact st_b hb (by assumption) (by assumption) (by assumption) (by assumption) (by assumption))
      k_steps
    · k_with_none
      (k_with "state" => exact st_c (by assumption) (by assumption) (by assumption))
      k_steps
  · k_with_none
    k_steps
    rename_i r _ _ _ _ _ _ _ _ hi _ hp ho _ _ _
    subst r
    exact hq _ _ _ (Fr.keep (by assumption)) ⟨_, _, _, _, rfl, Fresh.of (by assumption) (.head _), hi, hp, ho⟩
end Mine
end
section
open PySem PySem.W PyProof.Rows
set_option maxRecDepth 100000
namespace Mine
theorem Spec.use {w : World} {f : Addr} {vs : List Value} {D U : Nat} {pre : Heap → Prop} {post : Heap → Value → Heap → Prop} (S : Spec w f vs D U pre post) {mean : ExcName → Option Value} {mg mb : Str → Option Value} {dp un : Nat} {fr : Option (List Env)} {gd : Option (List Code)}
    {s : Shared} {Q E : Value → Shared → Prop} {h₀ : Heap} {L : Addr} {m : Str → Option Value} {news : List (Addr × Obj)} (F : Fr h₀ L s.heap m) (N : News h₀ L s.heap news) (X : (K w.params).In h₀) (T : Top (viewQ pw) (looseW (viewQ pw) looseL) mean mg mb h₀) (hp : pre s.heap) (hd : dp + D < recursionLimit) (hu : un + U < cLine)
    (h : ∀ v h' tk', Fr h₀ L h' m → News h₀ L h' news → (∀ b o, s.heap.get? b = some o → h'.get? b = some o) → post s.heap v h' → Q v { s with heap := h', toks := tk' }) :
    wpAny (model pw w) (Ar dp un fr gd) (call (.ref f) vs) Q E s :=
  S mean mg mb dp un fr gd s Q E ⟨X.keeps F.keep, T.keeps F.keep⟩ hp hd hu fun v h' tk' k p => h v h' tk' (F.keeps k) (N.grown k) k p
end Mine
end
section
open PySem PySem.W PyProof.Rows
set_option maxRecDepth 100000
namespace Mine
open Builtin Builtin._codecs in
theorem call_encode {prog : Program} {w : World} {A : Around} {E : Value → Shared → Prop} {s : Shared} {T : Str} {t : Tok} {B : Array UInt8} {Q : Value → Shared → Prop} (e : encodeNarrow "str.encode" utf8Codec none (.str T t) T = pure B) (hb : B.size ≤ sizeLine)
    (h : Q (.bytes B s.toks) { s with toks := s.toks + 1 }) : wpAny (model prog w) A (call (.builtin "str.encode") [.str T t]) Q E s := by
  refine wpAny_call_entry F.slot_str_encode (typeIs_str _ _ _) F.entry_str_encode ?_ (F.args_str_encode_1 _)
  rw [encode_tree, encodeRoad_utf8, e]
  refine wpAny_bind (wpAny_bind (wpAny_pure (wpAny_mkBytes ?_ hb)))
  exact wpAny_pure ⟨_, rfl, h⟩
def names4 : List Str := [(" \\Seen" : Str), (" \\Answered" : Str), (" \\Flagged" : Str), (" \\Deleted" : Str)]
def flagL (M : Int) : List Str := ((rangeInts 0 1 4).filter fun j => decide ((M.fdiv (2 ^ j.toNat)).fmod 2 = 1)).map fun j => names4.getD j.toNat ""
def replyT (J M : Int) : Str := Str.ofString "* " ++ Str.ofString (toString J) ++ Str.ofString " FETCH (FLAGS (\\Recent" ++ Txt.join (Str.ofString "") (flagL M) ++ Str.ofString "))"
def replyB (J M : Int) : Array UInt8 := (replyT J M).cps.map (·.toUInt8)
theorem two_turns {σ : Type} (f : Nat → σ → Sem (ForInStep σ)) (s0 s1 : σ) (h0 : ∀ i, f i s0 = pure (.yield s1)) (h1 : ∀ i, f i s1 = pure (.done s1)) : ∀ l : List Nat, l ≠ [] → forIn l s0 f = pure s1
  | [], h => absurd rfl h
  | [a], _ => by rw [List.forIn_cons, h0]; rfl
  | a :: b :: r, _ => by
    rw [List.forIn_cons, h0]
    show forIn (b :: r) s1 f = _
    rw [List.forIn_cons, h1]
    rfl
theorem fold_bytes (f : Nat → List UInt8) : ∀ (l : List Nat), (∀ c ∈ l, f c = [c.toUInt8]) → ∀ acc : Array UInt8, l.foldl (fun acc y => acc ++ (f y).toArray) acc = acc ++ (l.map (·.toUInt8)).toArray
  | [], _, acc => by simp
  | c :: l, h, acc => by
    rw [List.foldl_cons, fold_bytes f l (fun y hy => h y (.tail _ hy)), h c (.head _)]
    simp
theorem utf8_small {c : Nat} (h : c < 128) : Str.utf8Of c = [c.toUInt8] := by
  unfold Str.utf8Of
  rw [if_pos (by simpa using h)]
open Builtin Builtin._codecs in
theorem enc_ascii (x : Str) (t : Tok) (h : ∀ c ∈ x.cps.toList, c < 128) (hz : x.cps.size ≤ sizeLine) (h0 : 0 < x.cps.size) : encodeNarrow "str.encode" utf8Codec none (.str x t) x = pure (x.cps.map (·.toUInt8)) := by
  have hbad : ∀ c ∈ x.cps.toList, utf8Codec.bad c = false := fun c hc => by
    have := h c hc
    show Str.isSurrogate c = false
    unfold Str.isSurrogate
    simp
    omega
  have hnone : Array.findIdx? utf8Codec.bad x.cps = none := Array.findIdx?_eq_none_iff.mpr fun c hc => hbad c (by simpa using hc)
  have hfold : Array.foldl (fun acc y => acc ++ (utf8Codec.bytesOf y).toArray) #[] x.cps = x.cps.map (·.toUInt8) := by
    rw [← Array.foldl_toList, fold_bytes utf8Codec.bytesOf _ (fun c hc => utf8_small (h c hc))]
    simp
    rw [← Array.toList_map, Array.toArray_toList]
  unfold encodeNarrow
  simp only [Std.Legacy.Range.forIn_eq_forIn_range']
  rw [two_turns _ _ (x.cps.size, x.cps.map (·.toUInt8), {}) ?_ ?_ _ ?_]
  · rfl
  · intro i
    dsimp only
    rw [if_neg (by simp)]
    have e : x.cps[0]? = some (x.cps[0]'h0) := by simp [h0]
    rw [e]
    dsimp only
    rw [hbad _ (by simp)]
    simp only [Array.extract_size, Array.extract_zero, hnone, hfold, Option.getD_none, Nat.zero_add, Bool.not_false, if_true]
  · intro i
    dsimp only
    rw [if_neg (by rw [Array.size_map]; omega)]
    have e : x.cps[x.cps.size]? = none := by simp
    rw [e]
  · intro e
    have e2 : (List.range' 0 [:x.length].size).length = x.cps.size := by rw [List.length_range']; show (x.cps.size - 0 + 1 - 1) / 1 = x.cps.size; omega
    rw [e] at e2
    exact absurd e2.symm (by show ¬ x.cps.size = 0; omega)
theorem fin5 {J : Int} (h : 1 ≤ J ∧ J ≤ 5) : ∃ x : Fin 5, ((x.val : Int) + 1) = J := ⟨⟨(J - 1).toNat, by omega⟩, by show (((J - 1).toNat : Nat) : Int) + 1 = J; omega⟩
theorem fin16 {M : Int} (h : 0 ≤ M ∧ M < 16) : ∃ x : Fin 16, (x.val : Int) = M := ⟨⟨M.toNat, by omega⟩, Int.toNat_of_nonneg h.1⟩
/-- the same as numbers -/
def nmB : List (List Nat) := [[92, 83, 101, 101, 110], [92, 65, 110, 115, 119, 101, 114, 101, 100], [92, 70, 108, 97, 103, 103, 101, 100], [92, 68, 101, 108, 101, 116, 101, 100]]
def rcB : List Nat := [92, 82, 101, 99, 101, 110, 116]
def fwB (M : Int) : List (List Nat) := ((rangeInts 0 1 4).filter fun j => decide ((M.fdiv (2 ^ j.toNat)).fmod 2 = 1)).map fun j => nmB.getD j.toNat []
def grpL (M : Int) : List Nat := rcB ++ (fwB M).flatMap fun x => 32 :: x
def preL (J : Int) : List Nat := [42, 32, 48 + J.toNat, 32, 70, 69, 84, 67, 72, 32, 40]
def tailL (M : Int) : List Nat := [70, 76, 65, 71, 83, 32, 40] ++ (grpL M ++ [41, 41])
def replyL (J M : Int) : List Nat := preL J ++ tailL M
theorem join_flag {M : Int} (h : 0 ≤ M ∧ M < 16) : (Txt.join (Str.ofString "") (flagL M)).cps.toList = (fwB M).flatMap fun x => 32 :: x := by
  have hd : ∀ x : Fin 16, (Txt.join (Str.ofString "") (flagL (x.val : Int))).cps.toList = (fwB (x.val : Int)).flatMap fun x => 32 :: x := by decide +kernel
  obtain ⟨y, rfl⟩ := fin16 h
  exact hd y
theorem digit_is {J : Int} (h : 1 ≤ J ∧ J ≤ 5) : (Str.ofString (toString J)).cps.toList = [48 + J.toNat] := by
  have hd : ∀ x : Fin 5, (Str.ofString (toString ((x.val : Int) + 1))).cps.toList = [48 + ((x.val : Int) + 1).toNat] := by decide +kernel
  obtain ⟨y, rfl⟩ := fin5 h
  exact hd y
theorem reply_cps {J M : Int} (hJ : 1 ≤ J ∧ J ≤ 5) (hM : 0 ≤ M ∧ M < 16) : (replyT J M).cps.toList = replyL J M := by
  unfold replyT
  rw [Str.cps_append, Str.cps_append, Str.cps_append, Str.cps_append, Array.toList_append, Array.toList_append, Array.toList_append, Array.toList_append, join_flag hM, digit_is hJ,
    show (Str.ofString "* ").cps.toList = [42, 32] by decide +kernel, show (Str.ofString " FETCH (FLAGS (\\Recent").cps.toList = [32, 70, 69, 84, 67, 72, 32, 40] ++ ([70, 76, 65, 71, 83, 32, 40] ++ rcB) by decide +kernel, show (Str.ofString "))").cps.toList = [41, 41] by decide +kernel]
  unfold replyL preL tailL grpL
  simp
theorem reply_ok {J M : Int} (hJ : 1 ≤ J ∧ J ≤ 5) (hM : 0 ≤ M ∧ M < 16) : (∀ c ∈ replyL J M, c < 128) ∧ (replyL J M).length ≤ 100 ∧ 0 < (replyL J M).length := by
  have h1 : ∀ x : Fin 5, ∀ c ∈ preL ((x.val : Int) + 1), c < 128 := by decide +kernel
  have h2 : ∀ x : Fin 16, ∀ c ∈ tailL (x.val : Int), c < 128 := by decide +kernel
  have h3 : ∀ x : Fin 16, (tailL (x.val : Int)).length ≤ 80 := by decide +kernel
  obtain ⟨x, rfl⟩ := fin5 hJ
  obtain ⟨y, rfl⟩ := fin16 hM
  refine ⟨fun c hc => ?_, ?_, ?_⟩
  · rcases List.mem_append.mp hc with hc | hc
    · exact h1 x c hc
    · exact h2 y c hc
  · have := h3 y
    show (preL _ ++ tailL _).length ≤ 100
    rw [List.length_append]
    show 11 + _ ≤ 100
    omega
  · show 0 < (preL _ ++ tailL _).length
    rw [List.length_append]
    show 0 < 11 + _
    omega
theorem reply_is {J M : Int} (hJ : 1 ≤ J ∧ J ≤ 5) (hM : 0 ≤ M ∧ M < 16) : replyB J M = ((replyL J M).map (·.toUInt8)).toArray := by
  unfold replyB
  rw [← reply_cps hJ hM, ← Array.toList_map]
open Builtin Builtin._codecs in
theorem enc_of {J M : Int} (hJ : 1 ≤ J ∧ J ≤ 5) (hM : 0 ≤ M ∧ M < 16) (t : Tok) : encodeNarrow "str.encode" utf8Codec none (.str (replyT J M) t) (replyT J M) = pure (replyB J M) := by
  have h := reply_ok hJ hM
  have e : (replyT J M).cps.size = (replyL J M).length := by rw [← reply_cps hJ hM]; simp
  exact enc_ascii _ t (by rw [reply_cps hJ hM]; exact h.1) (by rw [e]; exact Nat.le_trans h.2.1 (by decide)) (by rw [e]; exact h.2.2)
theorem len_of {J M : Int} (hJ : 1 ≤ J ∧ J ≤ 5) (hM : 0 ≤ M ∧ M < 16) : (replyB J M).size ≤ sizeLine := by
  have h := reply_ok hJ hM
  rw [reply_is hJ hM, List.size_toArray, List.length_map]
  exact Nat.le_trans h.2.1 (by decide)
theorem flag_w {M : Int} (h : 0 ≤ M ∧ M < 16) : ((flagL M).map (·.length)).sum + (flagL M).length ≤ 1048576 := by
  have hd : ∀ x : Fin 16, ((flagL (x.val : Int)).map (·.length)).sum + (flagL (x.val : Int)).length ≤ 1048576 := by decide +kernel
  obtain ⟨y, rfl⟩ := fin16 h
  exact hd y
theorem flag_len {M : Int} (h : 0 ≤ M ∧ M < 16) : (Txt.join (Str.ofString "") (flagL M)).length ≤ 64 := by
  have hd : ∀ x : Fin 16, (Txt.join (Str.ofString "") (flagL (x.val : Int))).length ≤ 64 := by decide +kernel
  obtain ⟨y, rfl⟩ := fin16 h
  exact hd y
theorem digit_len {J : Int} (h : 1 ≤ J ∧ J ≤ 5) : (Str.ofString (toString J)).length ≤ 1 := by
  have hd : ∀ x : Fin 5, (Str.ofString (toString ((x.val : Int) + 1))).length ≤ 1 := by decide +kernel
  obtain ⟨y, rfl⟩ := fin5 h
  exact hd y
def mailAt (first : Int) (ns : List Int) (k : Nat) : Int := ns.getD ((first + (k : Int)).fmod 5).toNat 0
def hit (first : Int) (ns : List Int) (l r : Int) (k : Nat) : Bool := Builtin.bitAnd (mailAt first ns k) l == l && Builtin.bitAnd (mailAt first ns k) r != r
/-- the server's answer -/
def noMail : Array UInt8 := (Str.ofString "* OK no mail speaks against it").cps.map (·.toUInt8)
def srvB (first : Int) (ns : List Int) (l r : Int) : Array UInt8 := match (List.range 5).find? (hit first ns l r) with
  | some k => replyB ((first + (k : Int)).fmod 5 + 1) (mailAt first ns k)
  | none => noMail
theorem find_first {p : Nat → Bool} {n k : Nat} (hk : k < n) (h : p k = true) (b : ∀ j < k, p j = false) : (List.range n).find? p = some k := by
  rw [List.find?_range_eq_some]
  exact ⟨h, List.mem_range.mpr hk, fun j hj => by simp [b j hj]⟩
theorem srv_some {a : Int} {ns : List Int} {l r : Int} {k : Nat} (hk : k < 5) (h : hit a ns l r k = true) (b : ∀ j < k, hit a ns l r j = false) : srvB a ns l r = replyB ((a + (k : Int)).fmod 5 + 1) (mailAt a ns k) := by
  unfold srvB
  rw [find_first hk h b]
theorem srv_none {a : Int} {ns : List Int} {l r : Int} (b : ∀ j < 5, hit a ns l r j = false) : srvB a ns l r = noMail := by
  unfold srvB
  have : (List.range 5).find? (hit a ns l r) = none := List.find?_eq_none.mpr fun j hj => by simp [b j (List.mem_range.mp hj)]
  rw [this]
theorem noMail_eq : noMail = #[42, 32, 79, 75, 32, 110, 111, 32, 109, 97, 105, 108, 32, 115, 112, 101, 97, 107, 115, 32, 97, 103, 97, 105, 110, 115, 116, 32, 105, 116] := by decide +kernel
theorem srv_hit {a k M : Int} {ns pre : List Int} {l r : Int} (hz : ns.length = 5) (hk : k = 0 + (pre.length : Int)) (hlt : pre.length < 5) (hP : ∀ j < pre.length, hit a ns l r j = false) (hM : ns.getD ((a + k).fmod ↑ns.length).toNat 0 = M)
    (hA : Builtin.bitAnd M ([l, r].getD (Int.toNat 0) 0) = [l, r].getD (Int.toNat 0) 0) (hB : Builtin.bitAnd M ([l, r].getD (Int.toNat 1) 0) ≠ [l, r].getD (Int.toNat 1) 0) : srvB a ns l r = replyB ((a + k).fmod ↑ns.length + 1) M := by
  have hk' : k = (pre.length : Int) := by omega
  subst hk'
  rw [hz] at hM ⊢
  have hm : mailAt a ns pre.length = M := hM
  rw [srv_some hlt (by unfold hit; rw [hm]; exact Bool.and_eq_true_iff.mpr ⟨beq_iff_eq.mpr hA, bne_iff_ne.mpr hB⟩) hP, hm]
  rfl
theorem srv_miss {a k : Int} {ns pre : List Int} {l r : Int} (hz : ns.length = 5) (hk : k = 0 + (pre.length : Int)) (hP : ∀ j < pre.length, hit a ns l r j = false)
    (h : Builtin.bitAnd (ns.getD ((a + k).fmod ↑ns.length).toNat 0) ([l, r].getD (Int.toNat 0) 0) ≠ [l, r].getD (Int.toNat 0) 0 ∨ Builtin.bitAnd (ns.getD ((a + k).fmod ↑ns.length).toNat 0) ([l, r].getD (Int.toNat 1) 0) = [l, r].getD (Int.toNat 1) 0) :
    ∀ j < (pre ++ [k]).length, hit a ns l r j = false := by
  intro j hj
  rw [List.length_append, List.length_singleton] at hj
  rcases Nat.lt_or_ge j pre.length with h1 | h1
  · exact hP j h1
  · have e : j = pre.length := by omega
    subst e
    have hk' : k = (pre.length : Int) := by omega
    subst hk'
    rw [hz] at h
    unfold hit
    rcases h with h | h
    · rw [Bool.and_eq_false_iff]; left; exact beq_eq_false_iff_ne.mpr h
    · rw [Bool.and_eq_false_iff]; right; exact bne_eq_false_iff_eq.mpr h
end Mine
end
section
open PySem PySem.W PyProof.Rows
set_option maxRecDepth 100000
namespace Mine
section
variable {prog : Program} {w : World} {A : Around} {E : Value → Shared → Prop} {s : Shared} {h₀ : Heap} {L : Addr} {m : Str → Option Value} {env : Env}
theorem comp_range {elt iter : Expr} {x : Str} {px : Pos} {ifs : List Expr} {scope : Scope} {cl : List (Str × Addr)} {pos : Pos} {Q : Value → Shared → Prop} {pz : Int → Bool} {d : Int → PyData} (_F : Fr h₀ L s.heap m)
    (hh : A.handled = none) (hclos : closureFor scope env = pure cl) (hcell : ∀ y ∈ scope.names, y.2 ≠ .cell) (hkind : scope.kind = .function)
    (hnames : ∀ y ∈ scope.names, y.2 = .local → scope.names.lookup y.1 = some .local) (hx : scope.names.lookup x = some .local) (hs : ∀ x, foldedSetIterable iter env x = pure x)
    (h : wpAny (model prog w) A (eval iter env) (fun xv s₁ => ∃ news : List (Addr × Obj), ∃ r a₀ b₀ c₀ t₀ u₀ v₀, ∃ n : Nat, xv = .ref r ∧ IsRange s₁.heap r a₀ b₀ c₀ t₀ u₀ v₀ ∧ Builtin.Range.small a₀ b₀ c₀ = true ∧ Builtin.Range.rangeSize a₀ b₀ c₀ = (n : Int) ∧ n ≤ sizeLine ∧ Fr h₀ L s₁.heap m ∧ News h₀ L s₁.heap news ∧
      (∀ C a v s₂ m₂ E', s₁.heap.objs.size ≤ C → a ∈ rangeInts a₀ c₀ n → ItemKind.int.is a v → s₂.heap.Ns (compEnvC scope cl C env).locals m₂ → m₂ x = some v → (∀ b o, s₁.heap.get? b = some o → s₂.heap.get? b = some o) →
        wpAny (model prog w) A (forIn ifs true fun c r => if r = true then do let ok ← isTrue c (compEnvC scope cl C env) (eval c (compEnvC scope cl C env)); pure (ForInStep.yield ok) else pure (ForInStep.yield r))
          (fun ok s₃ => ok = pz a ∧ Keeps s₂ s₃) E' s₂) ∧
      (∀ C a v s₂ m₂ E', s₁.heap.objs.size ≤ C → a ∈ rangeInts a₀ c₀ n → ItemKind.int.is a v → pz a = true → s₂.heap.Ns (compEnvC scope cl C env).locals m₂ → m₂ x = some v → (∀ b o, s₁.heap.get? b = some o → s₂.heap.get? b = some o) →
        wpAny (model prog w) A (eval elt (compEnvC scope cl C env)) (fun y s₃ => Carried y (d a) ∧ Keeps s₂ s₃) E' s₂) ∧
      (∀ D (ys : List Value) h' tk, Fr h₀ L h' m → News h₀ L h' news → h₀.get? D = none → h'.IsList D ys.toArray → NewPlain h' news D ys.toArray → CarriedAll ys (((rangeInts a₀ c₀ n).filter pz).map d) → Q (.ref D) { s₁ with heap := h', toks := tk })) E s) :
    wpAny (model prog w) A (eval (.ListComp elt [⟨.Name x px, iter, ifs, 0⟩] scope pos) env) Q E s := ListComp_DCr hh hclos hcell hkind hnames hx h hs
end
theorem mail_bits {ns : List Int} (hb : Bits ns) (hz : ns.length = 5) (i : Int) (h0 : 0 ≤ i) (h1 : i < 5) : 0 ≤ ns.getD i.toNat 0 ∧ ns.getD i.toNat 0 < 16 := by
  have hlt : i.toNat < ns.length := by omega
  have e : ns.getD i.toNat 0 = ns[i.toNat] := by simp [List.getD, hlt]
  rw [e]
  exact hb _ (List.getElem_mem hlt)
theorem range4 {a : Int} (h : a ∈ rangeInts 0 1 4) : a = 0 ∨ a = 1 ∨ a = 2 ∨ a = 3 := by
  have e : rangeInts 0 1 4 = [0, 1, 2, 3] := by decide
  rw [e] at h
  simpa using h
theorem news_comp {h₀ h h₂ : Heap} {L C : Addr} {m : Str → Option Value} {news : List (Addr × Obj)} {oC : Obj} (F : Fr h₀ L h m) (N : News h₀ L h news) (k : ∀ b o, h.get? b = some o → h₂.get? b = some o) (hC : h.objs.size ≤ C) (e : h₂.get? C = some oC) :
    News h₀ L h₂ ((C, oC) :: news) := by
  intro p hp
  rcases List.mem_cons.mp hp with rfl | hp
  · refine ⟨e, Nat.ne_of_gt (Nat.lt_of_lt_of_le F.ns.lt hC), ?_⟩
    cases e0 : h₀.get? C with
    | none => rfl
    | some o => exact absurd (Heap.lt_size (F.keep _ _ e0)) (Nat.not_lt.mpr hC)
  · exact ⟨k _ _ (N p hp).1, (N p hp).2⟩
end Mine
end
section
open PySem PySem.W PyProof.Rows
set_option maxRecDepth 100000
namespace Mine
open PySem.Builtin.Re
/-! the pattern's machine, by hand -/
def flCode : Array Nat := #[14, 4, 0, 8, 4294967295, 24, 5, 0, 4294967295, 2, 1, 16, 70, 16, 76, 16, 65, 16, 71, 16, 83, 16, 32, 16, 40, 17, 0, 24, 6, 0, 4294967295, 20, 41, 1, 17, 1, 16, 41, 1]
def it : Nat → Sre.M → Sre.M
  | 0, m => m
  | n + 1, m => it n m.step
theorem it_add : ∀ (a b : Nat) (m : Sre.M), it (a + b) m = it b (it a m)
  | 0, b, m => by rw [Nat.zero_add]; rfl
  | a + 1, b, m => by rw [Nat.add_right_comm]; exact it_add a b m.step
theorem step_done {m : Sre.M} (h : m.outcome.isSome = true) : m.step = m := by unfold Sre.M.step; rw [if_pos h]
theorem it_done {m : Sre.M} (h : m.outcome.isSome = true) : ∀ n, it n m = m
  | 0 => rfl
  | n + 1 => by show it n m.step = m; rw [step_done h]; exact it_done h n
theorem runFor_it : ∀ (n : Nat) (m : Sre.M), m.runFor n = it n m
  | 0, m => rfl
  | n + 1, m => by
    unfold Sre.M.runFor
    by_cases h : m.outcome.isSome = true
    · rw [if_pos h, it_done h]
    · rw [if_neg h]; exact runFor_it n m.step
def kp (lm li : Int) : Sre.Kept := { lastmark := lm, lastindex := li, whole := false, marks := #[] }
def frG (k i n : Nat) (lm li : Int) : Sre.Frame := { wait := .giveBack, pc := k, pos := i, outermost := true, count := n, kept := kp lm li, loop := 0, began := none }
def stS (T : Array Nat) (pc pos hd : Nat) (fr : List Sre.Frame) (wt : Nat) (an : Option Bool) (lm li : Int) (mk : Array (Option Nat)) (seen : Sre.Seen) : Sre.M :=
  { code := flCode, text := T, lim := T.size, start := 0, pc := pc, pos := pos, handed := hd, outermost := true, marks := mk, lastmark := lm, lastindex := li, frames := fr, weight := wt, answer := an, seen := seen }
theorem acc_lit {k x : Nat} {seen : Sre.Seen} (hk : flCode.getD k 0 = 16) : Sre.accepts flCode k x seen = .ok (x == flCode.getD (k + 1) 0, seen) := by
  delta Sre.accepts
  dsimp only
  rw [hk]
  rfl
theorem to_exec (T : Array Nat) (k pos hd fr wt lm li mk seen) (hks : k < flCode.size) : (stS T k pos hd fr wt none lm li mk seen).step = (stS T k pos hd fr wt none lm li mk seen).exec := by
  unfold Sre.M.step
  rw [if_neg (by show ¬ Option.isSome none = true; exact Bool.false_ne_true)]
  show (if k < flCode.size then Sre.M.exec (stS T k pos hd fr wt none lm li mk seen) else _) = _
  rw [if_pos hks]
theorem exec_lit (m : Sre.M) (h : m.word 0 = 16) : m.exec = (if m.pos ≥ m.lim then ({ m with seen := m.seen.add 16 } : Sre.M).say false else
    match Sre.accepts m.code m.pc (m.text.getD m.pos 0) (m.seen.add 16) with
    | .error why => ({ m with seen := m.seen.add 16 } : Sre.M).stick why
    | .ok (false, seen) => ({ m with seen } : Sre.M).say false
    | .ok (true, seen) => { m with seen, pc := m.pc + Sre.itemWidth m.code m.pc, pos := m.pos + 1 }) := by
  delta Sre.M.exec
  dsimp only
  rw [h]
  rfl
theorem step_lit_no (T : Array Nat) (k c pos hd : Nat) (fr wt lm li mk seen) (hk : flCode.getD k 0 = 16) (hk1 : flCode.getD (k + 1) 0 = c) (hks : k < flCode.size) (h : T.size ≤ pos ∨ T.getD pos 0 ≠ c) :
    ∃ seen', (stS T k pos hd fr wt none lm li mk seen).step = stS T k pos hd fr wt (some false) lm li mk seen' := by
  rw [to_exec _ _ _ _ _ _ _ _ _ _ hks, exec_lit (stS T k pos hd fr wt none lm li mk seen) hk]
  refine ⟨seen.add 16, ?_⟩
  have ha : Sre.accepts (stS T k pos hd fr wt none lm li mk seen).code (stS T k pos hd fr wt none lm li mk seen).pc ((stS T k pos hd fr wt none lm li mk seen).text.getD (stS T k pos hd fr wt none lm li mk seen).pos 0) ((stS T k pos hd fr wt none lm li mk seen).seen.add 16) = .ok (T.getD pos 0 == c, seen.add 16) := by
    rw [← hk1]
    exact acc_lit hk
  rw [ha]
  by_cases hp : T.size ≤ pos
  · rw [if_pos (show (stS T k pos hd fr wt none lm li mk seen).pos ≥ (stS T k pos hd fr wt none lm li mk seen).lim from hp)]; rfl
  · rw [if_neg (show ¬ (stS T k pos hd fr wt none lm li mk seen).pos ≥ (stS T k pos hd fr wt none lm li mk seen).lim from hp), beq_eq_false_iff_ne.mpr (h.resolve_left hp)]; rfl
theorem step_lit_yes (T : Array Nat) (k c pos hd : Nat) (fr wt lm li mk seen) (hk : flCode.getD k 0 = 16) (hk1 : flCode.getD (k + 1) 0 = c) (hks : k < flCode.size) (hp : pos < T.size) (h : T.getD pos 0 = c) :
    ∃ seen', (stS T k pos hd fr wt none lm li mk seen).step = stS T (k + 2) (pos + 1) hd fr wt none lm li mk seen' := by
  rw [to_exec _ _ _ _ _ _ _ _ _ _ hks, exec_lit (stS T k pos hd fr wt none lm li mk seen) hk]
  have hw : Sre.itemWidth flCode k = 2 := by
    delta Sre.itemWidth
    try dsimp only
    rw [hk]
    rfl
  refine ⟨seen.add 16, ?_⟩
  have ha : Sre.accepts (stS T k pos hd fr wt none lm li mk seen).code (stS T k pos hd fr wt none lm li mk seen).pc ((stS T k pos hd fr wt none lm li mk seen).text.getD (stS T k pos hd fr wt none lm li mk seen).pos 0) ((stS T k pos hd fr wt none lm li mk seen).seen.add 16) = .ok (true, seen.add 16) := by
    rw [← beq_iff_eq.mpr h, ← hk1]
    exact acc_lit hk
  rw [ha, if_neg (show ¬ (stS T k pos hd fr wt none lm li mk seen).pos ≥ (stS T k pos hd fr wt none lm li mk seen).lim from Nat.not_le.mpr hp)]
  show ({ code := flCode, text := T, lim := T.size, start := 0, pc := k + Sre.itemWidth flCode k, pos := pos + 1, handed := hd, outermost := true, marks := mk, lastmark := lm, lastindex := li, frames := fr, weight := wt, answer := none, seen := seen.add 16 } : Sre.M) = _
  rw [hw]
  rfl
theorem step_back (T : Array Nat) (k pos hd i : Nat) (lm li : Int) (mk seen) :
    (stS T k pos hd [frG 5 (i + 1) (i + 1) (-1) (-1)] 1 (some false) lm li mk seen).step = stS T 11 i i [frG 5 i i (-1) (-1)] 1 none (-1) (-1) mk seen := by
  have h : ((i + 1 : Nat) : Int) - 1 = (i : Nat) := by omega
  have h2 : ¬ ((i : Nat) : Int) < ((0 : Nat) : Int) := by omega
  unfold Sre.M.step
  rw [if_neg (by show ¬ Option.isSome none = true; exact Bool.false_ne_true)]
  show Sre.M.resume _ (frG 5 (i + 1) (i + 1) (-1) (-1)) false = _
  unfold Sre.M.resume
  show (if (((i + 1 : Nat) : Int) - 1 < ((0 : Nat) : Int)) then _ else Sre.M.afterRun _ .giveBack (((i + 1 : Nat) : Int) - 1) (kp (-1) (-1))) = _
  rw [h, if_neg h2]
  rfl
theorem step_stop (T : Array Nat) (k pos hd : Nat) (lm li : Int) (mk seen) :
    ∃ m, it 2 (stS T k pos hd [frG 5 0 0 (-1) (-1)] 1 (some false) lm li mk seen) = m ∧ m.outcome = some .failed := ⟨_, rfl, rfl⟩
theorem run_any (T : Array Nat) (seen : Sre.Seen) : ∀ (n p f : Nat), (∀ j < n, T.getD (p + j) 0 ≠ 10) → Sre.run flCode T 9 n p f seen = .ok (f + n, seen)
  | 0, _, _, _ => rfl
  | n + 1, p, f, h => by
    have h0 : (T.getD p 0 != 10) = true := bne_iff_ne.mpr (h 0 (Nat.succ_pos _))
    have ih := run_any T seen n (p + 1) (f + 1) fun j hj => by rw [Nat.add_assoc, Nat.add_comm 1 j]; exact h (j + 1) (Nat.succ_lt_succ hj)
    unfold Sre.run
    show (do let x ← Except.ok (T.getD p 0 != 10, seen); _) = _
    rw [h0]
    show Sre.run flCode T 9 n (p + 1) (f + 1) seen = _
    rw [ih, show f + 1 + n = f + (n + 1) by omega]
theorem run_not (T : Array Nat) (seen : Sre.Seen) : ∀ (r n p f : Nat), r < n → (∀ j < r, T.getD (p + j) 0 ≠ 41) → T.getD (p + r) 0 = 41 → Sre.run flCode T 31 n p f seen = .ok (f + r, seen)
  | _, 0, _, _, h, _, _ => absurd h (Nat.not_lt_zero _)
  | 0, n + 1, p, f, _, _, h => by
    have h0 : (T.getD p 0 != 41) = false := bne_eq_false_iff_eq.mpr h
    unfold Sre.run
    show (do let x ← Except.ok (T.getD p 0 != 41, seen); _) = _
    rw [h0]
    rfl
  | r + 1, n + 1, p, f, hn, h, h' => by
    have h0 : (T.getD p 0 != 41) = true := bne_iff_ne.mpr (h 0 (Nat.succ_pos _))
    have ih := run_not T seen r n (p + 1) (f + 1) (Nat.lt_of_succ_lt_succ hn) (fun j hj => by rw [Nat.add_assoc, Nat.add_comm 1 j]; exact h (j + 1) (Nat.succ_lt_succ hj)) (by rw [Nat.add_assoc, Nat.add_comm 1 r]; exact h')
    unfold Sre.run
    show (do let x ← Except.ok (T.getD p 0 != 41, seen); _) = _
    rw [h0]
    show Sre.run flCode T 31 n (p + 1) (f + 1) seen = _
    rw [ih, show f + 1 + r = f + (r + 1) by omega]
def mk0 : Array (Option Nat) := #[none, none]
theorem start_is (T : Array Nat) (h : 8 ≤ T.size) : ∃ seen, Sre.forMatch flCode T 1 0 T.size false false = stS T 5 0 0 [] 0 none (-1) (-1) mk0 seen := by
  unfold Sre.forMatch
  have e : (decide (T.size - 0 < 8)) = false := decide_eq_false (by omega)
  show ∃ seen, (if (true && decide (0 ≤ T.size) && decide (T.size - 0 < 8)) = true then _ else _) = _
  rw [e, Bool.and_false, if_neg Bool.false_ne_true]
  exact ⟨_, rfl⟩
theorem step_first (T : Array Nat) (seen) (h : T.size < 4294967295) (hT : ∀ j < T.size, T.getD j 0 ≠ 10) :
    ∃ seen', (stS T 5 0 0 [] 0 none (-1) (-1) mk0 seen).step = stS T 11 T.size T.size [frG 5 T.size T.size (-1) (-1)] 1 none (-1) (-1) mk0 seen' := by
  rw [to_exec _ _ _ _ _ _ _ _ _ _ (by decide)]
  refine ⟨(seen.add 24).add 2, ?_⟩
  unfold Sre.M.exec
  have e1 : ((T.size : Nat) : Int) - ((0 : Nat) : Int) = ((T.size : Nat) : Int) := by omega
  have e2 : min 4294967295 T.size = T.size := by omega
  have e3 := run_any T ((seen.add 24).add 2) T.size 0 0 (fun j hj => by rw [Nat.zero_add]; exact hT j hj)
  show (if ((0 : Nat) : Int) > ((T.size : Nat) : Int) - ((0 : Nat) : Int) then _ else match Sre.run flCode T 9 (min 4294967295 (((T.size : Nat) : Int) - ((0 : Nat) : Int)).toNat) 0 0 ((seen.add 24).add 2) with | .error why => _ | .ok (n, seen) => _) = _
  rw [e1, if_neg (by omega), Int.toNat_natCast, e2, e3, Nat.zero_add]
  show Sre.M.afterRun _ _ _ _ = _
  unfold Sre.M.afterRun Sre.M.attempt
  simp only [stS, Nat.zero_add]
  rfl
theorem step_mark0 (T : Array Nat) (pos hd : Nat) (fr wt li seen) : ∃ seen', (stS T 25 pos hd fr wt none (-1) li mk0 seen).step = stS T 27 pos hd fr wt none 0 li #[some pos, none] seen' := by
  rw [to_exec _ _ _ _ _ _ _ _ _ _ (by decide)]
  exact ⟨_, rfl⟩
theorem step_mark1 (T : Array Nat) (pos hd a : Nat) (fr wt li seen) : ∃ seen', (stS T 34 pos hd fr wt none 0 li #[some a, none] seen).step = stS T 36 pos hd fr wt none 1 1 #[some a, some pos] seen' := by
  rw [to_exec _ _ _ _ _ _ _ _ _ _ (by decide)]
  refine ⟨seen.add 17, ?_⟩
  show Sre.M.mark _ 1 = _
  unfold Sre.M.mark
  simp [stS]
  exact ⟨by decide, rfl⟩
theorem step_rep (T : Array Nat) (pos hd r : Nat) (fr li mk seen) (h : T.size < 4294967295) (hr : pos + r < T.size) (h1 : ∀ j < r, T.getD (pos + j) 0 ≠ 41) (h2 : T.getD (pos + r) 0 = 41) :
    ∃ seen', (stS T 27 pos hd fr 1 none 0 li mk seen).step = stS T 34 (pos + r) (pos + r) (frG 27 (pos + r) r 0 li :: fr) 2 none 0 li mk seen' := by
  rw [to_exec _ _ _ _ _ _ _ _ _ _ (by decide)]
  refine ⟨(seen.add 24).add 20, ?_⟩
  unfold Sre.M.exec
  have e1 : (((T.size : Nat) : Int) - ((pos : Nat) : Int)).toNat = T.size - pos := by omega
  have e2 : min 4294967295 (T.size - pos) = T.size - pos := by omega
  have e3 := run_not T ((seen.add 24).add 20) r (T.size - pos) pos 0 (by omega) h1 h2
  show (if ((0 : Nat) : Int) > ((T.size : Nat) : Int) - ((pos : Nat) : Int) then _ else match Sre.run flCode T 31 (min 4294967295 (((T.size : Nat) : Int) - ((pos : Nat) : Int)).toNat) pos 0 ((seen.add 24).add 20) with | .error why => _ | .ok (n, seen) => _) = _
  rw [if_neg (by omega), e1, e2, e3, Nat.zero_add]
  show Sre.M.afterRun _ _ _ _ = _
  unfold Sre.M.afterRun Sre.M.attempt
  simp only [stS]
  rfl
theorem step_end (T : Array Nat) (pos hd : Nat) (f1 f2 : Sre.Frame) (li lm : Int) (mk seen) (h1 : f1 = frG 27 (pos - 1) (f1.count.toNat) 0 (-1)) (h2 : ∃ i, f2 = frG 5 i i (-1) (-1)) :
    ∃ m, it 4 (stS T 38 pos hd [f1, f2] 2 none lm li mk seen) = m ∧ m.outcome = some .matched ∧ m.start = 0 ∧ m.handed = pos ∧ m.lastmark = lm ∧ m.lastindex = li ∧ m.marks = mk := by
  obtain ⟨i, rfl⟩ := h2
  refine ⟨_, rfl, ?_⟩
  have e : (stS T 38 pos hd [f1, frG 5 i i (-1) (-1)] 2 none lm li mk seen).step = stS T 38 pos pos [f1, frG 5 i i (-1) (-1)] 2 (some true) lm li mk (seen.add 1) := by
    rw [to_exec _ _ _ _ _ _ _ _ _ _ (by decide)]
    rfl
  show Sre.M.outcome (it 3 (Sre.M.step _)) = _ ∧ _
  show (it 3 (Sre.M.step _)).outcome = _ ∧ (it 3 (Sre.M.step _)).start = _ ∧ (it 3 (Sre.M.step _)).handed = _ ∧ (it 3 (Sre.M.step _)).lastmark = _ ∧ (it 3 (Sre.M.step _)).lastindex = _ ∧ (it 3 (Sre.M.step _)).marks = _
  rw [e, h1]
  exact ⟨rfl, rfl, rfl, rfl, rfl, rfl⟩
/-- what a run comes to -/
def driveTo : Nat → Sre.M → Option Sre.M
  | 0, _ => none
  | k + 1, m => let m' := m.runFor 4; if m'.outcome.isSome = true then some m' else driveTo k m'
theorem drive_it : ∀ (k n : Nat) (m : Sre.M), (it n m).outcome.isSome = true → n ≤ 4 * k → 0 < k → driveTo k m = some (it n m)
  | 0, _, _, _, _, h => absurd h (Nat.lt_irrefl _)
  | k + 1, n, m, h, hn, _ => by
    unfold driveTo
    rw [runFor_it]
    show (if (it 4 m).outcome.isSome = true then some (it 4 m) else driveTo k (it 4 m)) = _
    by_cases h4 : (it 4 m).outcome.isSome = true
    · rw [if_pos h4]
      rcases Nat.le_total n 4 with hl | hl
      · obtain ⟨d, hd⟩ := Nat.exists_eq_add_of_le hl
        rw [hd, it_add, it_done h]
      · obtain ⟨d, hd⟩ := Nat.exists_eq_add_of_le hl
        rw [hd, it_add, it_done h4]
    · rw [if_neg h4]
      have hl : 4 < n := by
        refine Nat.lt_of_not_le fun hl => h4 ?_
        obtain ⟨d, hd⟩ := Nat.exists_eq_add_of_le hl
        rw [hd, it_add, it_done h]
        exact h
      obtain ⟨d, hd⟩ := Nat.exists_eq_add_of_le (Nat.le_of_lt hl)
      rw [hd, it_add] at h ⊢
      exact drive_it k d (it 4 m) h (by omega) (by omega)
/-- the machine comes to an end within N steps, at an m with P -/
def Ends (m : Sre.M) (N : Nat) (P : Sre.M → Prop) : Prop := ∃ n, n ≤ N ∧ (it n m).outcome.isSome = true ∧ P (it n m)
theorem Ends.step {m m' : Sre.M} {N : Nat} {P : Sre.M → Prop} (e : m.step = m') (h : Ends m' N P) : Ends m (N + 1) P := by
  obtain ⟨n, h1, h2, h3⟩ := h
  have e2 : it (n + 1) m = it n m' := by show it n m.step = _; rw [e]
  exact ⟨n + 1, Nat.succ_le_succ h1, by rw [e2]; exact h2, by rw [e2]; exact h3⟩
theorem Ends.more {m : Sre.M} {N N' : Nat} {P : Sre.M → Prop} (h : Ends m N P) (hl : N ≤ N') : Ends m N' P :=
  let ⟨n, h1, h2⟩ := h; ⟨n, Nat.le_trans h1 hl, h2⟩
theorem Ends.drive {m : Sre.M} {N : Nat} {P : Sre.M → Prop} (h : Ends m N P) {k : Nat} (hk : N ≤ 4 * k) (h0 : 0 < k) : ∃ m', driveTo k m = some m' ∧ P m' := by
  obtain ⟨n, h1, h2, h3⟩ := h
  exact ⟨_, drive_it k n m h2 (Nat.le_trans h1 hk) h0, h3⟩
abbrev stB (T : Array Nat) (i : Nat) (seen : Sre.Seen) : Sre.M := stS T 11 i i [frG 5 i i (-1) (-1)] 1 none (-1) (-1) mk0 seen
/-- one place given back -/
theorem back_one (T : Array Nat) (i : Nat) {N : Nat} {P : Sre.M → Prop} (h : T.getD (i + 1) 0 ≠ 70 ∨ T.getD (i + 2) 0 ≠ 76) (go : ∀ seen, Ends (stB T i seen) N P) (seen : Sre.Seen) : Ends (stB T (i + 1) seen) (N + 3) P := by
  by_cases h1 : T.size ≤ i + 1 ∨ T.getD (i + 1) 0 ≠ 70
  · obtain ⟨s1, e1⟩ := step_lit_no T 11 70 (i + 1) (i + 1) [frG 5 (i + 1) (i + 1) (-1) (-1)] 1 (-1) (-1) mk0 seen rfl rfl (by decide) h1
    exact (Ends.step e1 (Ends.step (step_back T 11 (i + 1) (i + 1) i (-1) (-1) mk0 s1) (go s1))).more (Nat.le_succ _)
  · have h2 := not_or.mp h1
    have h3 : T.getD (i + 1) 0 = 70 := Classical.byContradiction h2.2
    obtain ⟨s1, e1⟩ := step_lit_yes T 11 70 (i + 1) (i + 1) [frG 5 (i + 1) (i + 1) (-1) (-1)] 1 (-1) (-1) mk0 seen rfl rfl (by decide) (Nat.not_le.mp h2.1) h3
    obtain ⟨s2, e2⟩ := step_lit_no T 13 76 (i + 1 + 1) (i + 1) [frG 5 (i + 1) (i + 1) (-1) (-1)] 1 (-1) (-1) mk0 s1 rfl rfl (by decide) (.inr (h.resolve_left (fun h => h h3)))
    exact Ends.step e1 (Ends.step e2 (Ends.step (step_back T 13 (i + 1 + 1) (i + 1) i (-1) (-1) mk0 s2) (go s2)))
/-- back to the place p -/
theorem back_to (T : Array Nat) (p : Nat) {N : Nat} {P : Sre.M → Prop} (go : ∀ seen, Ends (stB T p seen) N P) : ∀ (d : Nat), (∀ i, p < i → i ≤ p + d → T.getD i 0 ≠ 70 ∨ T.getD (i + 1) 0 ≠ 76) → ∀ seen, Ends (stB T (p + d) seen) (N + 3 * d) P
  | 0, _, seen => go seen
  | d + 1, h, seen => by
    have ih := back_to T p go d fun i h1 h2 => h i h1 (Nat.le_succ_of_le h2)
    have := back_one T (p + d) (h (p + d + 1) (by omega) (by omega)) ih seen
    exact this.more (by omega)
theorem from_start (T : Array Nat) (p : Nat) {N : Nat} {P : Sre.M → Prop} (h8 : 8 ≤ T.size) (hz : T.size < 4294967295) (hT : ∀ j < T.size, T.getD j 0 ≠ 10) (hp : p ≤ T.size) (hF : ∀ i, p < i → i ≤ T.size → T.getD i 0 ≠ 70 ∨ T.getD (i + 1) 0 ≠ 76)
    (go : ∀ seen, Ends (stB T p seen) N P) : Ends (Sre.forMatch flCode T 1 0 T.size false false) (N + 3 * (T.size - p) + 1) P := by
  obtain ⟨s0, e0⟩ := start_is T h8
  rw [e0]
  obtain ⟨s1, e1⟩ := step_first T s0 hz hT
  obtain ⟨d, hd⟩ := Nat.exists_eq_add_of_le hp
  refine Ends.step e1 ?_
  have := back_to T p go d (fun i h1 h2 => hF i h1 (by omega)) s1
  rw [← hd] at this
  exact this.more (by omega)
theorem match_no (T : Array Nat) (h8 : 8 ≤ T.size) (hz : T.size < 4294967295) (hT : ∀ j < T.size, T.getD j 0 ≠ 10) (hF : ∀ i, i ≤ T.size → T.getD i 0 ≠ 70) :
    ∃ m, driveTo (T.size + 10) (Sre.forMatch flCode T 1 0 T.size false false) = some m ∧ m.outcome = some .failed := by
  refine Ends.drive (N := 3 + 3 * (T.size - 0) + 1) (from_start T 0 h8 hz hT (Nat.zero_le _) (fun i _ h => .inl (hF i h)) fun seen => ?_) (by omega) (by omega)
  obtain ⟨s1, e1⟩ := step_lit_no T 11 70 0 0 [frG 5 0 0 (-1) (-1)] 1 (-1) (-1) mk0 seen rfl rfl (by decide) (.inr (hF 0 (Nat.zero_le _)))
  refine Ends.step e1 ?_
  obtain ⟨m, e2, h2⟩ := step_stop T 11 0 0 (-1) (-1) mk0 s1
  exact ⟨2, Nat.le_refl _, by rw [e2, h2]; rfl, by rw [e2]; exact h2⟩
theorem match_yes (T : Array Nat) (p r : Nat) (h8 : 8 ≤ T.size) (hz : T.size < 4294967295) (hT : ∀ j < T.size, T.getD j 0 ≠ 10) (hF : ∀ i, p < i → i ≤ T.size → T.getD i 0 ≠ 70 ∨ T.getD (i + 1) 0 ≠ 76)
    (hs : p + 7 + r < T.size) (a0 : T.getD p 0 = 70) (a1 : T.getD (p + 1) 0 = 76) (a2 : T.getD (p + 2) 0 = 65) (a3 : T.getD (p + 3) 0 = 71) (a4 : T.getD (p + 4) 0 = 83) (a5 : T.getD (p + 5) 0 = 32) (a6 : T.getD (p + 6) 0 = 40)
    (h1 : ∀ j < r, T.getD (p + 7 + j) 0 ≠ 41) (h2 : T.getD (p + 7 + r) 0 = 41) :
    ∃ m, driveTo (T.size + 10) (Sre.forMatch flCode T 1 0 T.size false false) = some m ∧ m.outcome = some .matched ∧ m.start = 0 ∧ m.handed = p + 7 + r + 1 ∧ m.lastmark = 1 ∧ m.lastindex = 1 ∧ m.marks = #[some (p + 7), some (p + 7 + r)] := by
  refine Ends.drive (N := 15 + 3 * (T.size - p) + 1) (from_start T p h8 hz hT (by omega) hF fun seen => ?_) (by omega) (by omega)
  obtain ⟨s1, e1⟩ := step_lit_yes T 11 70 p p [frG 5 p p (-1) (-1)] 1 (-1) (-1) mk0 seen rfl rfl (by decide) (by omega) a0
  refine Ends.step e1 ?_
  obtain ⟨s2, e2⟩ := step_lit_yes T 13 76 (p + 1) p [frG 5 p p (-1) (-1)] 1 (-1) (-1) mk0 s1 rfl rfl (by decide) (by omega) a1
  refine Ends.step e2 ?_
  obtain ⟨s3, e3⟩ := step_lit_yes T 15 65 (p + 2) p [frG 5 p p (-1) (-1)] 1 (-1) (-1) mk0 s2 rfl rfl (by decide) (by omega) a2
  refine Ends.step e3 ?_
  obtain ⟨s4, e4⟩ := step_lit_yes T 17 71 (p + 3) p [frG 5 p p (-1) (-1)] 1 (-1) (-1) mk0 s3 rfl rfl (by decide) (by omega) a3
  refine Ends.step e4 ?_
  obtain ⟨s5, e5⟩ := step_lit_yes T 19 83 (p + 4) p [frG 5 p p (-1) (-1)] 1 (-1) (-1) mk0 s4 rfl rfl (by decide) (by omega) a4
  refine Ends.step e5 ?_
  obtain ⟨s6, e6⟩ := step_lit_yes T 21 32 (p + 5) p [frG 5 p p (-1) (-1)] 1 (-1) (-1) mk0 s5 rfl rfl (by decide) (by omega) a5
  refine Ends.step e6 ?_
  obtain ⟨s7, e7⟩ := step_lit_yes T 23 40 (p + 6) p [frG 5 p p (-1) (-1)] 1 (-1) (-1) mk0 s6 rfl rfl (by decide) (by omega) a6
  refine Ends.step e7 ?_
  obtain ⟨s8, e8⟩ := step_mark0 T (p + 7) p [frG 5 p p (-1) (-1)] 1 (-1) s7
  refine Ends.step e8 ?_
  obtain ⟨s9, e9⟩ := step_rep T (p + 7) p r [frG 5 p p (-1) (-1)] (-1) #[some (p + 7), none] s8 hz hs h1 h2
  refine Ends.step e9 ?_
  obtain ⟨s10, e10⟩ := step_mark1 T (p + 7 + r) (p + 7 + r) (p + 7) (frG 27 (p + 7 + r) r 0 (-1) :: [frG 5 p p (-1) (-1)]) 2 (-1) s9
  refine Ends.step e10 ?_
  obtain ⟨s11, e11⟩ := step_lit_yes T 36 41 (p + 7 + r) (p + 7 + r) (frG 27 (p + 7 + r) r 0 (-1) :: [frG 5 p p (-1) (-1)]) 2 1 1 #[some (p + 7), some (p + 7 + r)] s10 rfl rfl (by decide) hs h2
  refine Ends.step e11 ?_
  obtain ⟨m, e12, h3⟩ := step_end T (p + 7 + r + 1) (p + 7 + r) (frG 27 (p + 7 + r) r 0 (-1)) (frG 5 p p (-1) (-1)) 1 1 #[some (p + 7), some (p + 7 + r)] s11 rfl ⟨p, rfl⟩
  exact ⟨4, Nat.le_refl _, by rw [e12, h3.1]; rfl, by rw [e12]; exact h3⟩
end Mine
end
section
open PySem PySem.W PyProof.Rows
set_option maxRecDepth 100000
namespace Mine
open PySem.Builtin.Re
theorem slot_re_match : Slot "re.Pattern" "match" "re.Pattern.match" :=
  .of (owner := "re.Pattern") (n := "match") (by rw [typeLookup_type, builtinLookup_eq_fast]; kernel_rfl) (by decide +kernel) (by decide +kernel) (by decide +kernel)
    (by first | exact .inl (by decide +kernel) | exact .inr (by decide +kernel)) (by rw [isSubtype_type]; kernel_rfl)
theorem type_re_match : typeOf (.builtin "re.Pattern.match") = pure (.type "method_descriptor") := by show builtinType _ = _; rw [builtinType_eq_fast]; kernel_rfl
theorem entry_re_match : entryFor table "re.Pattern.match" = some Builtin.«re.Pattern.match» := entryFor_of_tree (by kernel_rfl)
theorem plainAttrs_re : PlainAttrs "re.Pattern" :=
  ⟨⟨"object.__getattribute__", by rw [typeLookup_type, builtinLookup_eq_fast]; kernel_rfl, by decide +kernel⟩, by rw [typeLookup_type, builtinLookup_eq_fast]; kernel_rfl⟩
theorem owner_re : Manifest.owners.lookup (String.ofList ['n', 'r', 'e', 't', 't', 'a', 'P', '.', 'e', 'r'].reverse) = some Manifest.sig_re_Pattern := by kernel_rfl
theorem args_re_match (a b : Value) : argsOk "re.Pattern.match" ⟨[a, b], []⟩ := by
  unfold argsOk; rw [signature?_of (id := "re.Pattern.match") (n := ['h', 'c', 't', 'a', 'm']) (o := ['n', 'r', 'e', 't', 't', 'a', 'P', '.', 'e', 'r']) (by kernel_rfl) owner_re]; kernel_rfl
theorem text_eq (b : Array UInt8) (t : Tok) : reTextOf (.bytes b t) = pure (b.map (·.toNat), 1) := by
  unfold reTextOf
  rw [KBy.quiet_eq]
  rfl
theorem named_eq (b : Array UInt8) (t : Tok) : reNamed "re.Pattern.match" "match" ["string", "pos", "endpos"] 1 [.bytes b t] [] = pure [some (.bytes b t), none, none] := by
  rfl
def flItems : Array Value := flCode.map fun (n : Nat) => Value.int (n : Int) 0
/-- the pattern stands at the top -/
def FlAt (h : Heap) : Prop := ∃ (o c : Obj) (n : Nat) (b0 : Array UInt8) (t0 t1 : Tok) (a3 a4 : Addr), h.get? 36 = some o ∧ o.cls = .type "re.Pattern" ∧ o.dict = none ∧ o.data = .fields #[.bytes b0 t0, .int 0 t1, .int 1 0, .ref a3, .ref a4, .ref 35, .int 1 0] ∧ h.get? 35 = some c ∧ c.data = .seq flItems n
theorem items_code : (flItems.map reRawOf).map (·.toNat) = flCode := by decide +kernel
section
variable {prog : Program} {w : World} {A : Around} {E : Value → Shared → Prop} {s : Shared}
theorem wp_target {B : Array UInt8} {t : Tok} {Q : ReTarget → Shared → Prop} (hF : FlAt s.heap) (hz : B.size ≤ 1000)
    (h : Q { pattern := .ref 36, string := .bytes B t, code := flCode, text := B.map (·.toNat), kind := 1, groups := 1, pos := 0, lim := (B.map (·.toNat)).size } s) :
    wpAny (model prog w) A (reTarget "re.Pattern.match" "match" ⟨[.ref 36, .bytes B t], []⟩) Q E s := by
  obtain ⟨o, c, n, b0, t0, t1, a3, a4, ho, _, _, hd, hc, hcd⟩ := hF
  unfold reTarget
  show wpAny _ _ (reNamed "re.Pattern.match" "match" ["string", "pos", "endpos"] 1 [.bytes B t] [] >>= _) _ _ _
  rw [named_eq]
  refine wpAny_bind (wpAny_pure ?_)
  refine wpAny_bind (wpAny_pure ?_)
  refine wpAny_bind (wpAny_pure ?_)
  refine wpAny_bind (wpAny_fieldsOf ho hd ?_)
  rw [text_eq]
  refine wpAny_bind (wpAny_pure ?_)
  show wpAny _ _ (reNoCollectionInside (.bytes B t) 1 >>= _) _ _ _
  refine wpAny_bind ?_
  unfold reNoCollectionInside
  show wpAny _ _ (isInstance (.bytes B t) (.type "bytes") >>= _) _ _ _
  refine wpAny_bind (wpAny_isInstance_val (T := "bytes") (b := true) rfl (by rw [isSubtype_type]; kernel_rfl) ?_)
  refine wpAny_pure ?_
  unfold reRawItems
  refine wpAny_bind (wpAny_bind (wpAny_seqItems hc hcd (wpAny_pure ?_)))
  refine wpAny_pure ?_
  have e1 : min (2 ^ 63 - 1 : Int).toNat (B.map (·.toNat)).size = (B.map (·.toNat)).size := by rw [Array.size_map]; omega
  have e2 : min (0 : Int).toNat (B.map (·.toNat)).size = 0 := by simp
  show Q { pattern := .ref 36, string := .bytes B t, code := (flItems.map reRawOf).map (·.toNat), text := B.map (·.toNat), kind := 1, groups := 1, pos := min (0 : Int).toNat (B.map (·.toNat)).size, lim := min (2 ^ 63 - 1 : Int).toNat (B.map (·.toNat)).size } s
  rw [e1, e2, items_code]
  exact h
theorem wp_drive {Q : Sre.M → Shared → Prop} : ∀ (k n : Nat) (m m' : Sre.M), driveTo k m = some m' → k ≤ n → Q m' s → wpAny (model prog w) A (reDrive n m) Q E s
  | 0, _, _, _, h, _, _ => nomatch h
  | _ + 1, 0, _, _, _, h, _ => absurd h (Nat.not_succ_le_zero _)
  | k + 1, n + 1, m, m', h, hn, hq => by
    unfold driveTo at h
    unfold reDrive
    show wpAny _ _ (if (m.runFor 4).outcome.isSome = true then pure (m.runFor 4) else _) _ _ _
    by_cases h4 : (m.runFor 4).outcome.isSome = true
    · rw [if_pos h4]
      have e : some (m.runFor 4) = some m' := by rw [← h]; exact (if_pos h4).symm
      cases e
      exact wpAny_pure hq
    · rw [if_neg h4]
      have e : driveTo k (m.runFor 4) = some m' := by rw [← h]; exact (if_neg h4).symm
      exact wpAny_bind (wpAny_rule (wp_drive k n _ m' e (Nat.le_of_succ_le_succ hn) hq))
theorem wp_rules {f : Nat → PUnit → Sem (ForInStep PUnit)} {Q : PUnit → Shared → Prop} (hf : ∀ (i : Nat) (r : PUnit) (Q : ForInStep PUnit → Shared → Prop), Q (.yield ⟨⟩) s → wpAny (model prog w) A (f i r) Q E s) (hq : Q ⟨⟩ s) : ∀ (l : List Nat), wpAny (model prog w) A (forIn l PUnit.unit f) Q E s
  | [] => wpAny_pure hq
  | i :: l => by
    rw [List.forIn_cons]
    exact wpAny_bind (hf i _ _ (wp_rules hf hq l))
theorem wp_end {m m' : Sre.M} {k : Nat} {Q : Option Sre.M → Shared → Prop} (hd : driveTo k m = some m') (hk : k ≤ 2000) (h1 : m'.outcome = some .matched → Q (some m') s) (h2 : m'.outcome = some .failed → Q none s) (h3 : m'.outcome = some .matched ∨ m'.outcome = some .failed) :
    wpAny (model prog w) A (reRunToEnd m) Q E s := by
  unfold reRunToEnd
  refine wpAny_bind (wp_drive k _ m m' hd (Nat.le_trans hk (by decide)) ?_)
  refine wpAny_bind (wp_rules (fun i r Q hq => ?_) ?_ _)
  · split
    · exact wpAny_bind (wpAny_rule (wpAny_pure hq))
    · exact wpAny_pure hq
  rcases h3 with h | h
  · rw [h]; exact wpAny_pure (h1 h)
  · rw [h]; exact wpAny_pure (h2 h)
theorem call_match_no {B : Array UInt8} {t : Tok} {Q : Value → Shared → Prop} (hF : FlAt s.heap) (hz : B.size ≤ 1000) (hm : ∃ m, driveTo ((B.map (·.toNat)).size + 10) (Sre.forMatch flCode (B.map (·.toNat)) 1 0 (B.map (·.toNat)).size false false) = some m ∧ m.outcome = some .failed)
    (h : Q .none s) : wpAny (model prog w) A (call (.builtin "re.Pattern.match") [.ref 36, .bytes B t]) Q E s := by
  have hT : s.TypeIs (.ref 36) "re.Pattern" := by obtain ⟨o, c, n, b0, t0, t1, a3, a4, ho, hc, _⟩ := hF; exact ⟨o, ho, hc⟩
  obtain ⟨m, hm, hf⟩ := hm
  refine wpAny_call_entry slot_re_match hT entry_re_match ?_ (args_re_match _ _)
  unfold Builtin.«re.Pattern.match»
  refine wpAny_bind (wp_target hF hz ?_)
  unfold reAnswer
  refine wpAny_bind (wp_end hm (by rw [Array.size_map]; omega) (fun e => by rw [hf] at e; cases e) (fun _ => ?_) (.inr hf))
  exact wpAny_pure ⟨_, rfl, h⟩
theorem call_match_yes {B : Array UInt8} {t : Tok} {Q : Value → Shared → Prop} {b e : Nat} (hF : FlAt s.heap) (hz : B.size ≤ 1000) (hbe : b ≤ e)
    (hm : ∃ m, driveTo ((B.map (·.toNat)).size + 10) (Sre.forMatch flCode (B.map (·.toNat)) 1 0 (B.map (·.toNat)).size false false) = some m ∧ m.outcome = some .matched ∧ m.start = 0 ∧ m.handed = e + 1 ∧ m.lastmark = 1 ∧ m.lastindex = 1 ∧ m.marks = #[some b, some e])
    (h : Q (.ref (s.heap.objs.size + 1)) { s with heap := (s.heap.push { cls := .type "tuple", data := .seq [rawInt (0 : Nat), rawInt (e + 1 : Nat), rawInt b, rawInt e].toArray }).push { cls := .type "re.Match", data := .fields [.bytes B t, .ref 36, rawInt (0 : Nat), rawInt (B.map (·.toNat)).size, rawInt 1, .ref s.heap.objs.size].toArray } }) :
    wpAny (model prog w) A (call (.builtin "re.Pattern.match") [.ref 36, .bytes B t]) Q E s := by
  have hT : s.TypeIs (.ref 36) "re.Pattern" := by obtain ⟨o, c, n, b0, t0, t1, a3, a4, ho, hc, _⟩ := hF; exact ⟨o, ho, hc⟩
  obtain ⟨m, hm, hf, e1, e2, e3, e4, e5⟩ := hm
  refine wpAny_call_entry slot_re_match hT entry_re_match ?_ (args_re_match _ _)
  unfold Builtin.«re.Pattern.match»
  refine wpAny_bind (wp_target hF hz ?_)
  unfold reAnswer
  refine wpAny_bind (wp_end hm (by rw [Array.size_map]; omega) (fun _ => ?_) (fun e => by rw [hf] at e; cases e) (.inl hf))
  refine wpAny_bind ?_
  unfold reNewMatch
  rw [e1, e2, e3, e4, e5]
  have hlt : decide (e < b) = false := decide_eq_false (by omega)
  show wpAny _ _ (if ((true && decide (e < b)) || false) = true then _ else _) _ _ _
  rw [hlt, if_neg (by decide)]
  refine wpAny_bind (wpAny_newTuple (items := [rawInt (0 : Nat), rawInt (e + 1 : Nat), rawInt b, rawInt e]) (hsz := by show 4 ≤ sizeLine; decide) ?_)
  refine wpAny_newObj_type (hd := by show 6 ≤ sizeLine + 2; decide) ?_
  rw [Heap.size_push]
  exact wpAny_pure ⟨_, rfl, h⟩
end
end Mine
end
section
open PySem PySem.W PyProof.Rows
set_option maxRecDepth 100000
namespace Mine
open PySem.Builtin.Re
theorem items35 (P : Params) : (o35v0 pw P).data = .seq flItems 0 := by kernel_rfl
theorem fl_of {w : World} {h : Heap} (X : (K w.params).In h) : FlAt h :=
  ⟨_, _, 0, _, _, _, _, _, X 36 _ rfl, rfl, rfl, rfl, X 35 _ rfl, items35 _⟩
theorem fl33 {w : World} {h : Heap} (X : (K w.params).In h) : ∃ f : Str → Option Value, h.MapOf (PySem.strKind pw w) 33 f ∧ ∃ t, f (Str.ofString "flags") = some (.int 1 t) := by
  refine ⟨fun k => findBy (PySem.strKind pw w).is ⟨[de w.params [102,108,97,103,115] 327 (.int 1 328)]⟩ k, ⟨_, _, _, X 33 _ rfl, ⟨rfl, rfl, rfl⟩, rfl, ?_, fun k => rfl⟩, ?_⟩
  · intro e he
    have he : e = de w.params [102,108,97,103,115] 327 (.int 1 328) := by simpa using he
    subst he
    exact ⟨⟨⟨[102,108,97,103,115]⟩⟩, by simp [PySem.strKind, de, Value.isStrOf], rfl⟩
  · exact ⟨328, by kernel_rfl⟩
theorem slot_re_group : Slot "re.Match" "group" "re.Match.group" :=
  .of (owner := "re.Match") (n := "group") (by rw [typeLookup_type, builtinLookup_eq_fast]; kernel_rfl) (by decide +kernel) (by decide +kernel) (by decide +kernel)
    (by first | exact .inl (by decide +kernel) | exact .inr (by decide +kernel)) (by rw [isSubtype_type]; kernel_rfl)
theorem type_re_group : typeOf (.builtin "re.Match.group") = pure (.type "method_descriptor") := by show builtinType _ = _; rw [builtinType_eq_fast]; kernel_rfl
theorem entry_re_group : entryFor table "re.Match.group" = some Builtin.«re.Match.group» := entryFor_of_tree (by kernel_rfl)
theorem plainAttrs_mo : PlainAttrs "re.Match" :=
  ⟨⟨"object.__getattribute__", by rw [typeLookup_type, builtinLookup_eq_fast]; kernel_rfl, by decide +kernel⟩, by rw [typeLookup_type, builtinLookup_eq_fast]; kernel_rfl⟩
theorem owner_mo : Manifest.owners.lookup (String.ofList ['h', 'c', 't', 'a', 'M', '.', 'e', 'r'].reverse) = some Manifest.sig_re_Match := by kernel_rfl
theorem args_re_group (a b : Value) : argsOk "re.Match.group" ⟨[a, b], []⟩ := by
  unfold argsOk; rw [signature?_of (id := "re.Match.group") (n := ['p', 'u', 'o', 'r', 'g']) (o := ['h', 'c', 't', 'a', 'M', '.', 'e', 'r']) (by kernel_rfl) owner_mo]; kernel_rfl
theorem look_index : typeLookup (.type "str") "__index__" = pure none := by rw [typeLookup_type, builtinLookup_eq_fast]; kernel_rfl
/-- the match of a text, its group from b to e -/
def MoAt (h : Heap) (a : Addr) (B : Array UInt8) (b e : Nat) : Prop := ∃ (o c : Obj) (n : Nat) (t : Tok) (p l i : Value) (c0 c1 : Value) (at' : Addr), h.get? a = some o ∧ o.cls = .type "re.Match" ∧ o.dict = none ∧ o.data = .fields #[.bytes B t, .ref 36, p, l, i, .ref at'] ∧ h.get? at' = some c ∧ c.data = .seq #[c0, c1, rawInt b, rawInt e] n
def grpB (B : Array UInt8) (b e : Nat) : Array UInt8 := ((B.map (·.toNat)).extract b e).map (·.toUInt8)
theorem call_group {w : World} {A : Around} {E : Value → Shared → Prop} {s : Shared} {a : Addr} {B : Array UInt8} {t : Tok} {Q : Value → Shared → Prop} {b e : Nat} (X : (K w.params).In s.heap) (hM : MoAt s.heap a B b e) (hz : B.size ≤ 1000)
    (h : ∀ k, Q (.bytes (grpB B b e) k) { s with toks := k + 1 }) : wpAny (model pw w) A (call (.builtin "re.Match.group") [.ref a, .str (Str.ofString "flags") t]) Q E s := by
  obtain ⟨o, c, n, t1, p, l, i, c0, c1, at', ho, hcl, hdi, hd, hc, hcd⟩ := hM
  refine wpAny_call_entry slot_re_group ⟨o, ho, hcl⟩ entry_re_group ?_ (args_re_group _ _)
  unfold Builtin.«re.Match.group»
  refine wpAny_bind (wpAny_pure ?_)
  show wpAny _ _ (reFound (.ref a) >>= _) _ _ _
  unfold reFound
  refine wpAny_bind (wpAny_bind (wpAny_fieldsOf ho hd ?_))
  unfold reRawItems
  have hsp : ((some #[c0, c1, rawInt (b : Int), rawInt (e : Int)]).getD #[]).map reRawOf = #[reRawOf c0, reRawOf c1, (b : Int), (e : Int)] := by simp [reRawOf, rawInt]
  refine wpAny_bind (wpAny_bind (wpAny_seqItems hc hcd (wpAny_pure ?_)))
  rw [hsp]
  refine wpAny_pure ?_
  refine wpAny_bind ?_
  unfold reGroupNumber
  obtain ⟨of, c', n', b0, t0, t1', a3, a4, hof, _, _, hdf, _, _⟩ := fl_of X
  have hof3 : s.heap.get? 36 = some (o36v0 pw w.params) := X 36 _ rfl
  obtain ⟨f, hmap, tt, hfl⟩ := fl33 X
  refine wpAny_bind (wpAny_pure (a := none) ?_)
  dsimp only
  rw [if_neg (by decide)]
  refine wpAny_bind (wpAny_specialOf (T := "str") (typeIs_str _ _ _) look_index ?_)
  rw [if_neg (by decide)]
  refine wpAny_bind (wpAny_fieldsOf hof3 rfl ?_)
  show wpAny _ _ (dictGet 33 (.str (Str.ofString "flags") t) >>= _) _ _ _
  refine wpAny_bind (wpAny_dictGet_of (knd := PySem.strKind pw w) (k := Str.ofString "flags") (by simp [PySem.strKind, Value.isStrOf]) hmap ?_)
  rw [hfl]
  dsimp only
  refine wpAny_bind (wpAny_pure (a := some 1) ?_)
  refine wpAny_bind (wpAny_pure ?_)
  show wpAny _ _ (if (decide ((1 : Int) < 0) || decide (2 * (1 : Int) ≥ (4 : Int))) = true then _ else _) _ _ _
  rw [if_neg (by decide)]
  refine wpAny_pure ?_
  refine wpAny_bind ?_
  unfold reGroupText
  have hb : ¬ (b : Int) < 0 := by omega
  have he : ¬ (e : Int) < 0 := by omega
  show wpAny _ _ (if (decide ((b : Int) < 0) || decide ((e : Int) < 0)) = true then pure Value.none else (reTextOf (.bytes B t1) >>= fun x => match x with | (text, kind) => reSlice text kind (b : Int).toNat (e : Int).toNat)) _ _ _
  rw [decide_eq_false hb, decide_eq_false he, if_neg (by decide)]
  rw [text_eq]
  refine wpAny_bind (wpAny_pure ?_)
  show wpAny _ _ (mkBytes (grpB B b e)) _ _ _
  refine wpAny_mkBytes ?_ ?_
  · exact wpAny_pure ⟨_, rfl, h _⟩
  · unfold grpB
    rw [Array.size_map, Array.size_extract, Array.size_map]
    have : sizeLine = 16777216 := rfl
    omega
end Mine
end
section
open PySem PySem.W PyProof.Rows
set_option maxRecDepth 100000
namespace Mine
open PySem.Builtin.Bytes
theorem slot_b_split : Slot "bytes" "split" "bytes.split" :=
  .of (owner := "bytes") (n := "split") (by rw [typeLookup_type, builtinLookup_eq_fast]; kernel_rfl) (by decide +kernel) (by decide +kernel) (by decide +kernel)
    (by first | exact .inl (by decide +kernel) | exact .inr (by decide +kernel)) (by rw [isSubtype_type]; kernel_rfl)
theorem type_b_split : typeOf (.builtin "bytes.split") = pure (.type "method_descriptor") := by show builtinType _ = _; rw [builtinType_eq_fast]; kernel_rfl
theorem entry_b_split : entryFor table "bytes.split" = some Builtin.«bytes.split» := entryFor_of_tree (by kernel_rfl)
theorem owner_b : Manifest.owners.lookup (String.ofList ['s', 'e', 't', 'y', 'b'].reverse) = some Manifest.sig_bytes := by kernel_rfl
theorem args_b_split (a : Value) : argsOk "bytes.split" ⟨[a], []⟩ := by
  unfold argsOk; rw [signature?_of (id := "bytes.split") (n := ['t', 'i', 'l', 'p', 's']) (o := ['s', 'e', 't', 'y', 'b']) (by kernel_rfl) owner_b]; kernel_rfl
inductive BytsAre : List Value → List (Array UInt8) → Prop
  | nil : BytsAre [] []
  | cons (b : Array UInt8) (t : Tok) {vs : List Value} {bs : List (Array UInt8)} : BytsAre vs bs → BytsAre (.bytes b t :: vs) (b :: bs)
theorem BytsAre.length : ∀ {vs : List Value} {bs : List (Array UInt8)}, BytsAre vs bs → vs.length = bs.length
  | _, _, .nil => rfl
  | _, _, .cons _ _ r => by rw [List.length_cons, List.length_cons, r.length]
section
variable {prog : Program} {w : World} {A : Around} {E : Value → Shared → Prop} {s : Shared}
theorem mapM_new : ∀ (ws : List (List UInt8)) (s : Shared) (Q : List Value → Shared → Prop), (∀ x ∈ ws, x.length ≤ sizeLine) → (∀ vs k, BytsAre vs (ws.map (·.toArray)) → Q vs { s with toks := k }) →
    wpAny (model prog w) A (ws.mapM fun x => Kind.new .bytes x.toArray) Q E s
  | [], s, Q, _, h => by rw [List.mapM_nil]; exact wpAny_pure (h [] s.toks .nil)
  | x :: r, s, Q, hx, h => by
    rw [List.mapM_cons]
    refine wpAny_bind (wpAny_mkBytes (wpAny_bind (mapM_new r _ _ (fun y hy => hx y (List.mem_cons_of_mem _ hy)) fun vs k hv => wpAny_pure ?_)) (by show x.toArray.size ≤ _; rw [List.size_toArray]; exact hx x (.head _)))
    exact h _ k (.cons _ _ hv)
theorem bind_eq : bindOptional "bytes.split" "split" ["sep", "maxsplit"] [] [] = pure [none, none] := by rfl
/-- the words of a bytes -/
def wordsB (G : Array UInt8) : List (Array UInt8) := if (!G.isEmpty && !G.any isSpace) = true then [G] else (words (G.size + 1) (G.size + 1) G.toList).map (·.toArray)
theorem call_bsplit {G : Array UInt8} {t : Tok} {Q : Value → Shared → Prop} (hz : G.size ≤ 1000) (hw : ∀ x ∈ words (G.size + 1) (G.size + 1) G.toList, x.length ≤ sizeLine) (hl : (words (G.size + 1) (G.size + 1) G.toList).length ≤ 1000)
    (h : ∀ vs k, BytsAre vs (wordsB G) → Q (.ref s.heap.objs.size) { s with heap := s.heap.push { cls := .type "list", data := .seq vs.toArray }, toks := k }) :
    wpAny (model prog w) A (call (.builtin "bytes.split") [.bytes G t]) Q E s := by
  refine wpAny_call_entry slot_b_split (typeIs_bytes _ _ _) entry_b_split ?_ (args_b_split _)
  unfold Builtin.«bytes.split» splitM
  show wpAny _ _ (bindOptional "bytes.split" "split" ["sep", "maxsplit"] [] [] >>= _) _ _ _
  rw [bind_eq]
  refine wpAny_bind (wpAny_pure ?_)
  refine wpAny_bind (wpAny_pure ?_)
  refine wpAny_bind (wpAny_pure (a := G) ?_)
  dsimp only
  refine wpAny_bind (wpAny_rule ?_)
  have hd : (decide (G.size + 1 > 0)) = true := decide_eq_true (Nat.succ_pos _)
  show wpAny _ _ (if (decide (G.size + 1 > 0) && !G.isEmpty && !G.any isSpace) = true then (do let x ← Kind.bytes.same (Value.bytes G t); let y ← newList [x]; ret y) else (do let x ← List.mapM (fun w => Kind.bytes.new w.toArray) (words (G.size + 1) (G.size + 1) G.toList); let y ← newList x; ret y)) _ _ _
  rw [hd, Bool.true_and]
  unfold wordsB at h
  by_cases hc : (!G.isEmpty && !G.any isSpace) = true
  · rw [if_pos hc] at h ⊢
    refine wpAny_bind ?_
    show wpAny _ _ (typeOf (.bytes G t) >>= _) _ _ _
    refine wpAny_bind (wpAny_typeOf (typeIs_bytes s G t) ?_)
    rw [if_pos (by decide)]
    refine wpAny_pure (wpAny_bind (wpAny_newList (hsz := by show 1 ≤ sizeLine; decide) ?_))
    exact wpAny_pure ⟨_, rfl, h [.bytes G t] s.toks (.cons _ _ .nil)⟩
  · rw [if_neg hc] at h ⊢
    refine wpAny_bind (mapM_new _ _ _ hw fun vs k hv => ?_)
    refine wpAny_bind (wpAny_newList (hsz := ?_) ?_)
    · exact wpAny_pure ⟨_, rfl, h vs k hv⟩
    · have : vs.length = (words (G.size + 1) (G.size + 1) G.toList).length := by rw [hv.length, List.length_map]
      rw [this]
      exact Nat.le_trans hl (by decide)
end
end Mine
end
section
open PySem PySem.W PyProof.Rows
set_option maxRecDepth 100000
namespace Mine
open PySem.Builtin.Bytes
def by8 (l : List Nat) : Array UInt8 := (l.map (·.toUInt8)).toArray
theorem by8_nat (l : List Nat) (h : ∀ c ∈ l, c < 128) : (by8 l).map (·.toNat) = l.toArray := by
  apply Array.ext'
  unfold by8
  rw [Array.toList_map, List.toList_toArray, List.map_map, List.toList_toArray]
  conv => rhs; rw [← List.map_id l]
  refine List.map_congr_left fun c hc => ?_
  have := h c hc
  show (c.toUInt8).toNat = c
  simp
  omega
theorem get_pre (a b : List Nat) (i : Nat) : (a ++ b).toArray.getD (a.length + i) 0 = b.toArray.getD i 0 := by
  simp [Array.getD_eq_getD_getElem?, List.getElem?_append_right]
/-- the tail of a reply, looked at sign by sign -/
def okTail (L : List Nat) (r : Nat) : Bool :=
  (List.range (L.length + 1)).all (fun i => i == 0 || L.toArray.getD i 0 != 70 || L.toArray.getD (i + 1) 0 != 76) && (List.range r).all (fun j => L.toArray.getD (7 + j) 0 != 41) && L.toArray.getD (7 + r) 0 == 41 && decide (7 + r < L.length) && L.all (· != 10) && decide (L.length ≤ 80)
theorem ok_tail : ∀ M : Fin 16, okTail (tailL (M.val : Int)) (grpL (M.val : Int)).length = true := by decide +kernel
theorem pre_ok : ∀ x : Fin 5, (preL ((x.val : Int) + 1)).all (· != 10) = true := by decide +kernel
theorem getD_all' {L : List Nat} {c : Nat} (h : L.all (· != c) = true) (i : Nat) (hi : i < L.length) : L.toArray.getD i 0 ≠ c := by
  have e : L.toArray.getD i 0 = L[i] := by simp [Array.getD_eq_getD_getElem?, hi]
  rw [e]
  have := List.all_eq_true.mp h _ (List.getElem_mem hi)
  simpa using this
theorem reply_nat {J M : Int} (hJ : 1 ≤ J ∧ J ≤ 5) (hM : 0 ≤ M ∧ M < 16) : (replyB J M).map (·.toNat) = (replyL J M).toArray := by
  rw [reply_is hJ hM]
  exact by8_nat _ (reply_ok hJ hM).1
theorem match_reply {J M : Int} (hJ : 1 ≤ J ∧ J ≤ 5) (hM : 0 ≤ M ∧ M < 16) : ∃ m, driveTo (((replyB J M).map (·.toNat)).size + 10) (Sre.forMatch flCode ((replyB J M).map (·.toNat)) 1 0 ((replyB J M).map (·.toNat)).size false false) = some m ∧ m.outcome = some .matched ∧ m.start = 0 ∧
    m.handed = (18 + (grpL M).length) + 1 ∧ m.lastmark = 1 ∧ m.lastindex = 1 ∧ m.marks = #[some 18, some (18 + (grpL M).length)] := by
  rw [reply_nat hJ hM]
  have hpre : (preL J).all (· != 10) = true := by obtain ⟨x, rfl⟩ := fin5 hJ; exact pre_ok x
  have hok : okTail (tailL M) (grpL M).length = true := by obtain ⟨y, rfl⟩ := fin16 hM; exact ok_tail y
  unfold okTail at hok
  simp only [Bool.and_eq_true, List.all_eq_true, List.mem_range, Bool.or_eq_true, bne_iff_ne, beq_iff_eq, decide_eq_true_eq] at hok
  obtain ⟨⟨⟨⟨⟨k1, k2⟩, k3⟩, k4⟩, k5⟩, k6⟩ := hok
  have hsz : (replyL J M).toArray.size = 11 + (tailL M).length := by
    show (preL J ++ tailL M).length = _
    rw [List.length_append]; rfl
  have hg : ∀ i, (replyL J M).toArray.getD (11 + i) 0 = (tailL M).toArray.getD i 0 := fun i => get_pre (preL J) (tailL M) i
  refine match_yes _ 11 (grpL M).length (by omega) (by omega) (fun j hj => ?_) (fun i h1 h2 => ?_) (by omega) (hg 0) (hg 1) (hg 2) (hg 3) (hg 4) (hg 5) (hg 6) (fun j hj => ?_) ?_
  · refine getD_all' ?_ j (by simpa using hj)
    show (preL J ++ tailL M).all (· != 10) = true
    rw [List.all_append, hpre, Bool.true_and, List.all_eq_true]
    exact fun x hx => bne_iff_ne.mpr (k5 x hx)
  · obtain ⟨d, hd⟩ := Nat.exists_eq_add_of_le (Nat.le_of_lt h1)
    subst hd
    rw [Nat.add_assoc, hg, hg]
    rcases k1 d (by omega) with (h | h) | h
    · omega
    · exact .inl h
    · exact .inr h
  · rw [show 11 + 7 + j = 11 + (7 + j) by omega, hg]
    exact k2 j hj
  · rw [show 11 + 7 + (grpL M).length = 11 + (7 + (grpL M).length) by omega, hg]
    exact k3
theorem grp_is {J M : Int} (hJ : 1 ≤ J ∧ J ≤ 5) (hM : 0 ≤ M ∧ M < 16) : grpB (replyB J M) 18 (18 + (grpL M).length) = by8 (grpL M) := by
  unfold grpB
  rw [reply_nat hJ hM]
  have e : (replyL J M).toArray.extract 18 (18 + (grpL M).length) = (grpL M).toArray := by
    apply Array.ext'
    simp only [List.extract_toArray, List.extract_eq_drop_take]
    show ((preL J ++ ([70, 76, 65, 71, 83, 32, 40] ++ (grpL M ++ [41, 41]))).drop 18).take (18 + (grpL M).length - 18) = grpL M
    rw [show preL J ++ ([70, 76, 65, 71, 83, 32, 40] ++ (grpL M ++ [41, 41])) = (preL J ++ [70, 76, 65, 71, 83, 32, 40]) ++ (grpL M ++ [41, 41]) by simp]
    rw [List.drop_left' (by rfl), show 18 + (grpL M).length - 18 = (grpL M).length by omega, List.take_left' rfl]
  rw [e]
  unfold by8
  simp
set_option profiler true
theorem words_all : ∀ M : Fin 16, wordsB (by8 (grpL (M.val : Int))) = by8 rcB :: (fwB (M.val : Int)).map by8 ∧ (∀ x ∈ words ((by8 (grpL (M.val : Int))).size + 1) ((by8 (grpL (M.val : Int))).size + 1) (by8 (grpL (M.val : Int))).toList, x.length ≤ 100) ∧ (words ((by8 (grpL (M.val : Int))).size + 1) ((by8 (grpL (M.val : Int))).size + 1) (by8 (grpL (M.val : Int))).toList).length ≤ 100 := by decide +kernel
end Mine
end
section
open PySem PySem.W PyProof.Rows
set_option maxRecDepth 100000
namespace Mine
theorem filled_wg : PySem.Challenge.rw_ku0043_01 = PySem.Challenge.rw_ku0043_01 ∧ K = K := by
  k_fill
  exact ⟨rfl, rfl⟩
set_option maxHeartbeats 4000000
set_option pp.maxSteps 20000
set_option pp.deepTerms false
set_option pp.deepTerms.threshold 6
theorem no_match : ∃ m, driveTo ((noMail.map (·.toNat)).size + 10) (Sre.forMatch flCode (noMail.map (·.toNat)) 1 0 (noMail.map (·.toNat)).size false false) = some m ∧ m.outcome = some .failed := by
  have e : noMail.map (·.toNat) = #[42, 32, 79, 75, 32, 110, 111, 32, 109, 97, 105, 108, 32, 115, 112, 101, 97, 107, 115, 32, 97, 103, 97, 105, 110, 115, 116, 32, 105, 116] := by rw [noMail_eq]; decide +kernel
  rw [e]
  exact match_no _ (by decide) (by decide) (by decide +kernel) (by decide +kernel)
theorem look_bool : typeLookup (.type "re.Match") "__bool__" = pure none := by rw [typeLookup_type, builtinLookup_eq_fast]; kernel_rfl
theorem look_len : typeLookup (.type "re.Match") "__len__" = pure none := by rw [typeLookup_type, builtinLookup_eq_fast]; kernel_rfl
theorem truthy_mo {prog : Program} {w : World} {A : Around} {E : Value → Shared → Prop} {s : Shared} {a : Addr} {Q : Bool → Shared → Prop} (hT : s.TypeIs (.ref a) "re.Match") (h : Q true s) : wpAny (model prog w) A (truthy (.ref a)) Q E s := by
  unfold truthy
  show wpAny _ _ (callSpecial? (.ref a) "__bool__" >>= _) _ _ _
  unfold callSpecial?
  refine wpAny_bind (wpAny_bind (wpAny_specialOf hT look_bool (wpAny_pure ?_)))
  refine wpAny_bind (wpAny_specialOf hT look_len ?_)
  exact wpAny_pure h
open PySem.Builtin.Bytes in
theorem words_of {M : Int} (h : 0 ≤ M ∧ M < 16) : wordsB (by8 (grpL M)) = by8 rcB :: (fwB M).map by8 ∧ (∀ x ∈ words ((by8 (grpL M)).size + 1) ((by8 (grpL M)).size + 1) (by8 (grpL M)).toList, x.length ≤ 100) ∧ (words ((by8 (grpL M)).size + 1) ((by8 (grpL M)).size + 1) (by8 (grpL M)).toList).length ≤ 100 := by
  obtain ⟨y, rfl⟩ := fin16 h
  exact words_all y
/-- a tuple of bytes comes back -/
def BytTup (L : List (Array UInt8)) (h : Heap) (v : Value) (h' : Heap) : Prop := ∃ a o vs n, v = .ref a ∧ Fresh h h' a o ∧ o.cls = .type "tuple" ∧ o.data = .seq (List.toArray vs) n ∧ BytsAre vs L
theorem spec_parse_no (w : World) (t : Nat) : Spec w 43 [.bytes noMail t] 1 100 (fun _ => True) (BytTup []) := by
  intro mean mg mb dp un fr gd s Q E tp hp hd hu hq
  have KX : (K w.params).In s.heap := tp.X
  have T := tp.T
  refine enterP (scope := fScope (stAt pw 3)) (params := fArgs (stAt pw 3)) (body := fBody (stAt pw 3)) tp (by omega) rfl rfl (by rfl) (by rfl) (locs (by rfl)) ?_ (by rfl) (by rfl) (by rfl) (by decide +kernel)
  intro h₁ tk F N
  conv in (fBody _) => whnf
  iterate 4 walk1
  refine getMethod_builtin (T := "re.Pattern") ⟨_, (KX.keeps F.keep) 36 _ rfl, rfl⟩ plainAttrs_re slot_re_match type_re_match (fun a e => ⟨_, (KX.keeps F.keep) a _ (by cases e; rfl), rfl⟩) ?_
  iterate 4 walk1
  refine call_match_no ?_ (by rw [noMail_eq]; decide) no_match ?_
  · exact fl_of (KX.keeps F.keep)
  k_steps
  rename News _ _ _ _ => N9
  exact hq _ _ _ (Fr.keep (by assumption)) ⟨_, _, [], _, rfl, Fresh.of N9 (.head _), rfl, rfl, .nil⟩
theorem spec_parse_yes (w : World) (t : Nat) {J M : Int} (hJ : 1 ≤ J ∧ J ≤ 5) (hM : 0 ≤ M ∧ M < 16) : Spec w 43 [.bytes (replyB J M) t] 1 100 (fun _ => True) (BytTup (by8 rcB :: (fwB M).map by8)) := by
  intro mean mg mb dp un fr gd s Q E tp hp hd hu hq
  have KX : (K w.params).In s.heap := tp.X
  have T := tp.T
  have hz : (replyB J M).size ≤ 1000 := by
    rw [reply_is hJ hM, List.size_toArray, List.length_map]
    exact Nat.le_trans (reply_ok hJ hM).2.1 (by decide)
  refine enterP (scope := fScope (stAt pw 3)) (params := fArgs (stAt pw 3)) (body := fBody (stAt pw 3)) tp (by omega) rfl rfl (by rfl) (by rfl) (locs (by rfl)) ?_ (by rfl) (by rfl) (by rfl) (by decide +kernel)
  intro h₁ tk F N
  conv in (fBody _) => whnf
  iterate 4 walk1
  refine getMethod_builtin (T := "re.Pattern") ⟨_, (KX.keeps F.keep) 36 _ rfl, rfl⟩ plainAttrs_re slot_re_match type_re_match (fun a e => ⟨_, (KX.keeps F.keep) a _ (by cases e; rfl), rfl⟩) ?_
  iterate 4 walk1
  refine call_match_yes (b := 18) (e := 18 + (grpL M).length) ?_ hz (by omega) (match_reply hJ hM) ?_
  · exact fl_of (KX.keeps F.keep)
  have F2 := F.push { cls := .type "tuple", data := .seq [rawInt (0 : Nat), rawInt (18 + (grpL M).length + 1 : Nat), rawInt (18 : Nat), rawInt (18 + (grpL M).length : Nat)].toArray }
  have N2 := N.push F { cls := .type "tuple", data := .seq [rawInt (0 : Nat), rawInt (18 + (grpL M).length + 1 : Nat), rawInt (18 : Nat), rawInt (18 + (grpL M).length : Nat)].toArray }
  have F3 := F2.push { cls := .type "re.Match", data := .fields [.bytes (replyB J M) t, .ref 36, rawInt (0 : Nat), rawInt ((replyB J M).map (·.toNat)).size, rawInt 1, .ref h₁.objs.size].toArray }
  have N3 := N2.push F2 { cls := .type "re.Match", data := .fields [.bytes (replyB J M) t, .ref 36, rawInt (0 : Nat), rawInt ((replyB J M).map (·.toNat)).size, rawInt 1, .ref h₁.objs.size].toArray }
  clear F N F2 N2
  rw [Heap.size_push] at N3
  generalize h₁.objs.size = D1 at N3 F3 ⊢
  generalize (h₁.push _).push _ = H3 at N3 F3 ⊢
  iterate 7 (first | walk1 | (dsimp only; walk1))
  rename Fr _ _ _ _ => F5
  rename News _ _ _ _ => N5
  have z5 := N5.get (.head _)
  refine truthy_mo ⟨_, z5, rfl⟩ ?_
  iterate 11 (first | walk1 | (dsimp only; walk1))
  refine getMethod_builtin (T := "re.Match") ⟨_, z5, rfl⟩ plainAttrs_mo slot_re_group type_re_group (fun a e => ⟨_, by cases e; exact z5, rfl⟩) ?_
  iterate 4 (first | walk1 | (dsimp only; walk1))
  refine call_group (B := replyB J M) (b := 18) (e := 18 + (grpL M).length) ?_ ?_ hz ?_
  · exact KX.keeps F5.keep
  · exact ⟨_, _, _, _, _, _, _, _, _, _, z5, rfl, rfl, rfl, N5.get (.tail _ (.head _)), rfl⟩
  intro k5
  rw [grp_is hJ hM]
  refine getMethod_builtin (T := "bytes") (typeIs_bytes _ _ _) FB.plainAttrs_bytes slot_b_split type_b_split (fun a e => nomatch e) ?_
  iterate 1 (first | walk1 | (dsimp only; walk1))
  have hw := words_of hM
  refine call_bsplit ?_ (fun x hx => Nat.le_trans (hw.2.1 x hx) (by decide)) (Nat.le_trans hw.2.2 (by decide)) ?_
  · have : (by8 (grpL M)).size ≤ 1000 := by
      rw [← grp_is hJ hM]
      unfold grpB
      rw [Array.size_map, Array.size_extract, Array.size_map]
      omega
    exact this
  intro vs k6 hvs
  rw [hw.1] at hvs
  dsimp only
  have F6 := F5.push { cls := .type "list", data := .seq vs.toArray }
  have N6 := N5.push F5 { cls := .type "list", data := .seq vs.toArray }
  clear F5 N5 z5
  have hl6 : vs.length ≤ 16384 := by
    rw [hvs.length, List.length_cons, List.length_map]
    unfold fwB
    rw [List.length_map]
    exact Nat.le_trans (Nat.succ_le_succ (List.length_filter_le _ _)) (by decide)
  walk1
  refine kde_tupleOf (zs := vs) F6 N6 (N6.isList (.head _)) ?_ ?_ ?_
  · rw [List.size_toArray]; exact hl6
  · rfl
  intro D7 h7 F7 N7 _
  exact hq _ _ _ F7.keep ⟨_, _, vs, _, rfl, Fresh.of N7 (.head _), rfl, rfl, hvs⟩
end Mine
end
section
open PySem PySem.W PyProof.Rows
set_option maxRecDepth 100000
namespace Mine
theorem filled_wy : PySem.Challenge.rw_ku0043_01 = PySem.Challenge.rw_ku0043_01 ∧ K = K := by
  k_fill
  exact ⟨rfl, rfl⟩
theorem cells_five {cm : Str → Option Value} {n₁ n₂ n₃ n₄ n₅ : Str} {c₁ c₂ c₃ c₄ c₅ : Addr} {cells : List (Addr × Obj)} (x : CellsAre cm [(n₁, c₁), (n₂, c₂), (n₃, c₃), (n₄, c₄), (n₅, c₅)] cells) :
    ∃ o₁ o₂ o₃ o₄ o₅, cells = [(c₁, o₁), (c₂, o₂), (c₃, o₃), (c₄, o₄), (c₅, o₅)] ∧ o₁.data = .cell (cm n₁) ∧ o₂.data = .cell (cm n₂) ∧ o₃.data = .cell (cm n₃) ∧ o₄.data = .cell (cm n₄) ∧ o₅.data = .cell (cm n₅) := by
  cases x with | cons h r => obtain ⟨o₂, o₃, o₄, o₅, rfl, h₂, h₃, h₄, h₅⟩ := r.four; exact ⟨_, o₂, o₃, o₄, o₅, rfl, h, h₂, h₃, h₄, h₅⟩
theorem getD_all {L : List Int} {p : Int → Bool} (h : L.all p = true) (h0 : p 0 = true) (i : Nat) : p (L.getD i 0) = true := by
  unfold List.getD
  cases e : L[i]? with
  | none => exact h0
  | some x => exact List.all_eq_true.mp h x (List.mem_of_getElem? e)
theorem chr_one {prog : Program} {w : World} {A : Around} {E : Value → Shared → Prop} {s : Shared} {i : Int} {t : Tok} {X : Str} {Q : Value → Shared → Prop} (h0 : 0 ≤ i) (h1 : i ≤ 1114111) (hX : X = one i.toNat) (h : Q (.str X s.toks) { s with toks := s.toks + 1 }) :
    wpAny (model prog w) A (call (.builtin "chr") [.int i t]) Q E s := by
  subst hX
  exact chr_of_range h0 h1 h
theorem carried_str {v : Value} {x : Str} (h : Carried v (.str x)) : ∃ t, v = .str x t := by
  cases h; exact ⟨_, rfl⟩
theorem four_strs {ys : List Value} {a b c d : Str} (h : CarriedAll ys [.str a, .str b, .str c, .str d]) : ∃ t0 t1 t2 t3, ys = [.str a t0, .str b t1, .str c t2, .str d t3] := by
  cases h with | cons h0 h =>
  cases h with | cons h1 h =>
  cases h with | cons h2 h =>
  cases h with | cons h3 h =>
  cases h
  obtain ⟨t0, rfl⟩ := carried_str h0
  obtain ⟨t1, rfl⟩ := carried_str h1
  obtain ⟨t2, rfl⟩ := carried_str h2
  obtain ⟨t3, rfl⟩ := carried_str h3
  exact ⟨t0, t1, t2, t3, rfl⟩
def AllNe (d : Nat) : List (Addr × Obj) → Prop
  | [] => True
  | p :: r => @Ne Nat p.1 d ∧ AllNe d r
theorem allNe_of {d : Addr} : ∀ {l : List (Addr × Obj)}, (∀ p ∈ l, p.1 ≠ d) → AllNe d l
  | [], _ => trivial
  | p :: _, h => ⟨h p (.head _), allNe_of fun q hq => h q (.tail _ hq)⟩
theorem plain_news {h₀ h : Heap} {L D : Addr} {m : Str → Option Value} {news : List (Addr × Obj)} {ys : List Value} (x : NewPlain h news D ys.toArray) (F : Fr h₀ L h m) (N : News h₀ L h news) (hD : h₀.get? D = none) : ∃ n, News h₀ L h ((D, W.listOf ys.toArray n) :: news) := by
  have hL := x.ne_locals F
  obtain ⟨⟨n, e⟩, _⟩ := x
  refine ⟨n, fun p hp => ?_⟩
  rcases List.mem_cons.mp hp with rfl | hp
  · exact ⟨e, hL, hD⟩
  · exact N p hp
def offL : List Int := [115, 97, 102, 100]
def sgL : List Int := [65, 97, 119808, 119860, 119912, 120016, 120172, 120224, 120276, 120328, 120380, 120432]
def unsL : List Int := [173, 847, 6150, 6155, 6156, 6157, 8203, 8204, 8205, 8288, 65279] ++ rangeInts 65024 1 16
def arrL : List Int := [832, 833, 8206, 8207] ++ (rangeInts 8234 1 5 ++ rangeInts 8298 1 6)
/-- the sign of the j-th letter in the form c -/
def sgn (c j : Int) : Str := one (sgL.getD ((c + j).fmod 12).toNat 0 + offL.getD j.toNat 0 - 97).toNat
def pickL (M c : Int) : List Str := ((rangeInts 0 1 4).filter fun j => decide ((M.fdiv (2 ^ j.toNat)).fmod 2 = 1)).map fun j => sgn c j
/-- what is typed -/
def typedT (a b c : Int) : Str := one (unsL.getD (c.fmod 27).toNat 0).toNat ++ Txt.join (Str.ofString "") (pickL a c) ++ one (arrL.getD (c.fmod 15).toNat 0).toNat ++ Txt.join (Str.ofString "") (pickL b c) ++ one (unsL.getD ((c + 9).fmod 27).toNat 0).toNat
theorem pick_len (M c : Int) : (pickL M c).length ≤ 4 := by
  unfold pickL
  rw [List.length_map]
  exact Nat.le_trans (List.length_filter_le _ _) (by decide)
theorem pick_one (M c : Int) : ∀ x ∈ pickL M c, x.length = 1 := by
  intro x hx
  obtain ⟨j, _, rfl⟩ := List.mem_map.mp hx
  rfl
theorem ones_sum : ∀ (l : List Str), (∀ x ∈ l, x.length = 1) → (l.map (·.length)).sum = l.length
  | [], _ => rfl
  | x :: l, h => by rw [List.map_cons, List.sum_cons, h x (.head _), ones_sum l fun y hy => h y (.tail _ hy), List.length_cons]; omega
theorem pick_w (M c : Int) : ((pickL M c).map (·.length)).sum + (pickL M c).length ≤ 1048576 := by
  rw [ones_sum _ (pick_one M c)]
  have := pick_len M c
  omega
theorem pick_join (M c : Int) : (Txt.join (Str.ofString "") (pickL M c)).length ≤ 4 := by
  rw [PySem.W.KT.join_ones _ (pick_one M c)]
  exact pick_len M c
set_option maxHeartbeats 4000000
set_option pp.maxSteps 20000
set_option pp.deepTerms false
set_option pp.deepTerms.threshold 6
theorem spec_typed (w : World) (a b c : Int) (t u v : Nat) (ha : 0 ≤ a ∧ a < 16) (hb : 0 ≤ b ∧ b < 16) (hc : 0 ≤ c ∧ c < 1000) : Spec w 171 [.int a t, .int b u, .int c v] 4 20 (fun _ => True) (fun _ v _ => ∃ t', v = .str (typedT a b c) t') := by
  intro mean mg mb dp un fr gd s Q E tp hp hd hu hq
  have KX : (K w.params).In s.heap := tp.X
  have T := tp.T
  refine enterC (scope := fScope (stAt pw 17)) (params := fArgs (stAt pw 17)) (body := fBody (stAt pw 17)) tp (by omega) rfl rfl (by rfl) (by rfl) (by rfl) (by decide +kernel) ?_ (by rfl) (by rfl) (by rfl)
  intro h₁ tk cells F N Y
  conv in (fBody _) => whnf
  have hY := cells_five Y; obtain ⟨o', o2', o3', o4', o5', hE', d1', d2', d3', d4', d5'⟩ := hY; subst hE'; clear Y
  replace F : Fr s.heap s.heap.objs.size h₁ (fun _ => none) := F
  replace d1' : o'.data = .cell none := d1'
  replace d2' : o2'.data = .cell none := d2'
  replace d3' : o3'.data = .cell (some (.int c v)) := d3'
  replace d4' : o4'.data = .cell (some (.int b u)) := d4'
  replace d5' : o5'.data = .cell (some (.int a t)) := d5'
  k_steps
  rename CarriedAll _ _ => hc9
  rename Heap.IsList _ _ _ => hl9
  rename Fr _ _ _ _ => F9
  rename News _ _ _ _ => N9
  refine kmk_add_ints (ns := [173, 847, 6150, 6155, 6156, 6157, 8203, 8204, 8205, 8288, 65279]) F9 N9 (N9.isList (.head _)) hl9 (by repeat constructor) (IntsAre.ofCarried hc9) ?_ (by decide)
  intro D₂ us₂ h₂ F₂ N₂ l₂ hI₂
  replace l₂ := allLt_of l₂
  simp only [AllLt, and_true] at l₂
  clear F9 N9 hl9 hc9
  k_steps
  rename CarriedAll _ _ => hc9
  rename Heap.IsList _ _ _ => hl9
  rename Fr _ _ _ _ => F9
  rename News _ _ _ _ => N9
  refine kmk_add_ints (ns := [832, 833, 8206, 8207]) F9 N9 (N9.isList (.head _)) hl9 (by repeat constructor) (IntsAre.ofCarried hc9) ?_ (by decide)
  intro D₃ us₃ h₃ F₃ N₃ l₃ hI₃
  replace l₃ := allLt_of l₃
  simp only [AllLt, and_true] at l₃
  clear F9 N9 hl9 hc9
  k_steps
  rename CarriedAll _ _ => hc9
  rename Heap.IsList _ _ _ => hl9
  rename Fr _ _ _ _ => F9
  rename News _ _ _ _ => N9
  refine kmk_add_ints F9 N9 (N9.isList (.head _)) hl9 hI₃ (IntsAre.ofCarried hc9) ?_ (by decide)
  intro D₄ us₄ h₄ F₄ N₄ l₄ hI₄
  replace l₄ := allLt_of l₄
  simp only [AllLt, and_true] at l₄
  clear F9 N9 hl9 hc9 hI₃
  iterate 35 (first | walk1 | (dsimp only; walk1))
  rename Fr _ _ _ _ => F5
  refine comp_range F5 (pz := fun _ => true) (d := fun j => .str (sgn c j)) rfl (by rfl) (by decide) (by rfl) (by decide) (by rfl) (by intro _; rfl) ?_
  iterate 7 (first | walk1 | (dsimp only; walk1))
  rename Fr _ _ _ _ => F6
  rename News _ _ _ _ => N6
  rename IsRange _ _ _ _ _ _ _ _ => R6
  try clear F5
  refine ⟨_, _, _, _, _, _, _, _, 4, rfl, R6, by decide, by decide, by decide, F6, N6, ?_, ?_, ?_⟩
  · intro C a v s₂ m₂ E' hC ha hi hn hm hk
    exact wpAny_tests_nil ⟨rfl, _, _, rfl, fun _ _ h => h⟩
  · intro C a v s₂ m₂ E' hC ha hi hp hn hm hk
    obtain ⟨t, rfl⟩ := ItemKind.int_is hi
    obtain ⟨oC, eC, nC⟩ := LCg.ns_obj hn
    have N7 := news_comp F6 N6 hk hC eC
    have F7 := F6.keeps hk
    clear F6 N6 R6
    have hb9 := getD_all (L := [65, 97, 119808, 119860, 119912, 120016, 120172, 120224, 120276, 120328, 120380, 120432]) (p := fun x => decide (0 ≤ x ∧ x ≤ 1000000)) (by decide) (by decide) ((c + a).fmod 12).toNat
    simp only [decide_eq_true_eq] at hb9
    rcases range4 ha with rfl | rfl | rfl | rfl
    · k_steps
      rw [show ((Str.ofString "s").cps.getD 0 0 : Nat) = 115 by decide +kernel]
      refine chr_of_range (by omega) (by omega) ?_
      exact ⟨Carried.str (sgn c 0) _, _, _, rfl, fun _ _ h => h⟩
    · k_steps
      rw [show ((Str.ofString "a").cps.getD 0 0 : Nat) = 97 by decide +kernel]
      refine chr_of_range (by omega) (by omega) ?_
      exact ⟨Carried.str (sgn c 1) _, _, _, rfl, fun _ _ h => h⟩
    · k_steps
      rw [show ((Str.ofString "f").cps.getD 0 0 : Nat) = 102 by decide +kernel]
      refine chr_of_range (by omega) (by omega) ?_
      exact ⟨Carried.str (sgn c 2) _, _, _, rfl, fun _ _ h => h⟩
    · k_steps
      rw [show ((Str.ofString "d").cps.getD 0 0 : Nat) = 100 by decide +kernel]
      refine chr_of_range (by omega) (by omega) ?_
      exact ⟨Carried.str (sgn c 3) _, _, _, rfl, fun _ _ h => h⟩
  · intro D ys h' tk F7 N7 hD hL hPl hC
    rw [show ((rangeInts 0 1 4).filter fun _ => true).map (fun j => PyData.str (sgn c j)) = [.str (sgn c 0), .str (sgn c 1), .str (sgn c 2), .str (sgn c 3)] by rfl] at hC
    obtain ⟨t0, t1, t2, t3, rfl⟩ := four_strs hC
    have N8 := plain_news hPl F7 N7 hD
    obtain ⟨n8, N8⟩ := N8
    have hne := allNe_of hPl.2
    simp only [AllNe, and_true] at hne
    clear F6 N6 R6 N7 hPl hC hL
    k_steps
    have hu1 := getD_all (L := unsL) (p := fun x => decide (0 ≤ x ∧ x ≤ 1000000)) (by decide) (by decide) (c.fmod 27).toNat
    simp only [decide_eq_true_eq] at hu1
    obtain ⟨U1, hU1⟩ : ∃ U1, U1 = one (unsL.getD (c.fmod 27).toNat 0).toNat := ⟨_, rfl⟩
    refine chr_one (i := unsL.getD (c.fmod 27).toNat 0) (by omega) (by omega) hU1 ?_
    have hU1l : U1.length = 1 := by rw [hU1]; rfl
    clear hu1
    iterate 10 (first | walk1 | (dsimp only; walk1))
    rename Fr _ _ _ _ => F5
    rename News _ _ _ _ => N5
    refine comp_range F5 (pz := fun j => decide ((a.fdiv (2 ^ j.toNat)).fmod 2 = 1)) (d := fun j => .str (sgn c j)) rfl (by rfl) (by decide) (by rfl) (by decide) (by rfl) (by intro _; rfl) ?_
    iterate 7 (first | walk1 | (dsimp only; walk1))
    rename Fr _ _ _ _ => F6
    rename News _ _ _ _ => N6
    rename IsRange _ _ _ _ _ _ _ _ => R6
    try clear F5 N5
    refine ⟨_, _, _, _, _, _, _, _, 4, rfl, R6, by decide, by decide, by decide, F6, N6, ?_, ?_, ?_⟩
    · intro C a v s₂ m₂ E' hC ha hi hn hm hk
      obtain ⟨t, rfl⟩ := ItemKind.int_is hi
      obtain ⟨oC, eC, nC⟩ := LCg.ns_obj hn
      have N7 := news_comp F6 N6 hk hC eC
      have F7 := F6.keeps hk
      clear F6 N6 R6
      refine wpAny_tests_one ?_
      rcases range4 ha with rfl | rfl | rfl | rfl
      all_goals k_steps
      all_goals exact ⟨_, _, rfl, fun _ _ h => h⟩
    · intro C a v s₂ m₂ E' hC ha hi hp hn hm hk
      obtain ⟨t, rfl⟩ := ItemKind.int_is hi
      obtain ⟨oC, eC, nC⟩ := LCg.ns_obj hn
      have N7 := news_comp F6 N6 hk hC eC
      have F7 := F6.keeps hk
      clear F6 N6 R6
      rcases range4 ha with rfl | rfl | rfl | rfl
      all_goals k_steps
      all_goals first | exact Carried.str _ _ | exact ⟨_, _, rfl, fun _ _ h => h⟩
    · intro D ys h' tk F7 N7 hD hL hPl hC
      clear F6 N6 R6 hPl
      have hS : StrsAre ys (pickL a c) := StrsAre.ofCarried (by unfold pickL; rw [List.map_map]; exact hC)
      clear hC
      iterate 1 (first | walk1 | (dsimp only; walk1))
      refine join_listW hL (by simpa using hS) (by decide) (pick_w a c) ?_
      intro t' k'
      have JAl := pick_join a c
      obtain ⟨JA, hJA⟩ : ∃ x, x = Txt.join (Str.ofString "") (pickL a c) := ⟨_, rfl⟩
      rw [← hJA] at JAl ⊢
      clear hL hS hD
      k_steps
      have hu1 := getD_all (L := arrL) (p := fun x => decide (0 ≤ x ∧ x ≤ 1000000)) (by decide) (by decide) (c.fmod 15).toNat
      simp only [decide_eq_true_eq] at hu1
      obtain ⟨A1, hA1⟩ : ∃ U1, U1 = one (arrL.getD (c.fmod 15).toNat 0).toNat := ⟨_, rfl⟩
      refine chr_one (i := arrL.getD (c.fmod 15).toNat 0) (by omega) (by omega) hA1 ?_
      have hA1l : A1.length = 1 := by rw [hA1]; rfl
      clear hu1
      iterate 11 (first | walk1 | (dsimp only; walk1))
      rename Fr _ _ _ _ => F5
      rename News _ _ _ _ => N5
      refine comp_range F5 (pz := fun j => decide ((b.fdiv (2 ^ j.toNat)).fmod 2 = 1)) (d := fun j => .str (sgn c j)) rfl (by rfl) (by decide) (by rfl) (by decide) (by rfl) (by intro _; rfl) ?_
      iterate 7 (first | walk1 | (dsimp only; walk1))
      rename Fr _ _ _ _ => F6
      rename News _ _ _ _ => N6
      rename IsRange _ _ _ _ _ _ _ _ => R6
      try clear F5 N5
      refine ⟨_, _, _, _, _, _, _, _, 4, rfl, R6, by decide, by decide, by decide, F6, N6, ?_, ?_, ?_⟩
      · intro C a v s₂ m₂ E' hC ha hi hn hm hk
        obtain ⟨t, rfl⟩ := ItemKind.int_is hi
        obtain ⟨oC, eC, nC⟩ := LCg.ns_obj hn
        have N7 := news_comp F6 N6 hk hC eC
        have F7 := F6.keeps hk
        clear F6 N6 R6
        refine wpAny_tests_one ?_
        rcases range4 ha with rfl | rfl | rfl | rfl
        all_goals k_steps
        all_goals exact ⟨_, _, rfl, fun _ _ h => h⟩
      · intro C a v s₂ m₂ E' hC ha hi hp hn hm hk
        obtain ⟨t, rfl⟩ := ItemKind.int_is hi
        obtain ⟨oC, eC, nC⟩ := LCg.ns_obj hn
        have N7 := news_comp F6 N6 hk hC eC
        have F7 := F6.keeps hk
        clear F6 N6 R6
        rcases range4 ha with rfl | rfl | rfl | rfl
        all_goals k_steps
        all_goals first | exact Carried.str _ _ | exact ⟨_, _, rfl, fun _ _ h => h⟩
      · intro D ys h' tk F7 N7 hD hL hPl hC
        clear F6 N6 R6 hPl
        have hS : StrsAre ys (pickL b c) := StrsAre.ofCarried (by unfold pickL; rw [List.map_map]; exact hC)
        clear hC
        iterate 1 (first | walk1 | (dsimp only; walk1))
        refine join_listW hL (by simpa using hS) (by decide) (pick_w b c) ?_
        intro t' k'
        have JBl := pick_join b c
        obtain ⟨JB, hJB⟩ : ∃ x, x = Txt.join (Str.ofString "") (pickL b c) := ⟨_, rfl⟩
        rw [← hJB] at JBl ⊢
        clear hL hS hD
        k_steps
        have hu1 := getD_all (L := unsL) (p := fun x => decide (0 ≤ x ∧ x ≤ 1000000)) (by decide) (by decide) ((c + 9).fmod 27).toNat
        simp only [decide_eq_true_eq] at hu1
        obtain ⟨U2, hU2⟩ : ∃ U1, U1 = one (unsL.getD ((c + 9).fmod 27).toNat 0).toNat := ⟨_, rfl⟩
        refine chr_one (i := unsL.getD ((c + 9).fmod 27).toNat 0) (by omega) (by omega) hU2 ?_
        have hU2l : U2.length = 1 := by rw [hU2]; rfl
        clear hu1
        k_steps
        subst hU1 hJA hA1 hJB hU2
        exact hq _ _ _ (Fr.keep (by assumption)) ⟨_, rfl⟩
end Mine
end
section
open PySem PySem.W PyProof.Rows PySem.Calls
set_option maxRecDepth 100000
namespace Mine
/-- the contract of a def that is called with names -/
def SpecK (w : World) (f : Addr) (vs : List Value) (kw : List (Str × Value)) (D U : Nat) (pre : Heap → Prop) (post : Heap → Value → Heap → Prop) : Prop :=
  ∀ (mean : ExcName → Option Value) (mg mb : Str → Option Value) (dp un : Nat) (fr : Option (List Env)) (gd : Option (List Code)) (s : Shared) (Q E : Value → Shared → Prop), Tp w mean mg mb s.heap → pre s.heap → dp + D < recursionLimit → un + U < cLine →
    (∀ v h' tk', (∀ b o, s.heap.get? b = some o → h'.get? b = some o) → post s.heap v h' → Q v { s with heap := h', toks := tk' }) →
    wpAny (model pw w) (Ar dp un fr gd) (call (.ref f) vs kw) Q E s
theorem SpecK.use {w : World} {f : Addr} {vs : List Value} {kw : List (Str × Value)} {D U : Nat} {pre : Heap → Prop} {post : Heap → Value → Heap → Prop} (S : SpecK w f vs kw D U pre post) {mean : ExcName → Option Value} {mg mb : Str → Option Value} {dp un : Nat} {fr : Option (List Env)} {gd : Option (List Code)}
    {s : Shared} {Q E : Value → Shared → Prop} {h₀ : Heap} {L : Addr} {m : Str → Option Value} {news : List (Addr × Obj)} (F : Fr h₀ L s.heap m) (N : News h₀ L s.heap news) (X : (K w.params).In h₀) (T : Top (viewQ pw) (looseW (viewQ pw) looseL) mean mg mb h₀) (hp : pre s.heap) (hd : dp + D < recursionLimit) (hu : un + U < cLine)
    (h : ∀ v h' tk', Fr h₀ L h' m → News h₀ L h' news → (∀ b o, s.heap.get? b = some o → h'.get? b = some o) → post s.heap v h' → Q v { s with heap := h', toks := tk' }) :
    wpAny (model pw w) (Ar dp un fr gd) (call (.ref f) vs kw) Q E s :=
  S mean mg mb dp un fr gd s Q E ⟨X.keeps F.keep, T.keeps F.keep⟩ hp hd hu fun v h' tk' k p => h v h' tk' (F.keeps k) (N.grown k) k p
section
variable {w : World} {mean : ExcName → Option Value} {mg mb : Str → Option Value} {dp un : Nat} {fr : Option (List Env)} {gd : Option (List Code)} {s : Shared} {Q E : Value → Shared → Prop} {f : Addr} {o : Obj}
    {name : Str} {params : Arguments} {body : List Stmt} {scope : Scope} {pm cd doc : Value} {args : List Value} {kw : List (Str × Value)} {binds : List (Str × Value)}
theorem enterCK
    (tp : Tp w mean mg mb s.heap) (hd : dp < recursionLimit) (ho : (K w.params).lookup f = some o) (hdata : o.data = .func (Calls.docDef name params body scope pm cd doc)) (hcd : codeIn (K w.params) cd name = true)
    (hbind : bindArgs (Calls.docDef name params body scope pm cd doc) ⟨args, kw⟩ = pure binds)
    (hkind : (binds.all fun y => scope.names.lookup y.1 == some .local || scope.names.lookup y.1 == some .cell) = true)
    (hnd : ((cellsFrom 0 scope.names []).map (·.1)).Nodup)
    (h : ∀ h₁ tk cells, Fr s.heap s.heap.objs.size h₁ (bindL (envOfC name scope s.heap.objs.size f cd).kindOf binds fun _ => none) → News s.heap s.heap.objs.size h₁ cells →
      CellsAre (bindC (envOfC name scope s.heap.objs.size f cd).kindOf binds fun _ => none) (cellsFrom (s.heap.objs.size + 1) scope.names []) cells →
      wpAny (model pw w) ((Ar dp un fr gd).deeper (envOfC name scope s.heap.objs.size f cd)) (execs body (envOfC name scope s.heap.objs.size f cd))
        (fun f s' => Q (match f with | .ret v => v | _ => .none) s') (fun _ _ => False) { s with heap := h₁, toks := tk })
    (hco : scope.isCoroutine = false := by rfl) (hgen : scope.isGenerator = false := by rfl) (hk : scope.kind = .function := by rfl) :
    wpAny (model pw w) (Ar dp un fr gd) (call (.ref f) args kw) Q E s := by
  refine wpAny_call ?_
  refine codeAny_call_function (fd := Calls.docDef name params body scope pm cd doc) (body := body) hd (K_get tp.X ho) hdata hco hgen rfl (codeRec_of tp.X hcd) ?_
  rw [hbind]
  refine wpAny_pure (wpAny_newFunctionEnv_cells hk (kindsX hkind _) fun env he s' x => ?_)
  subst he
  refine ⟨tp.T.nolimit.keeps x.toInCall.keep, codeAny_func ?_⟩
  obtain ⟨h₁, tk, rfl, _⟩ := x.done
  obtain ⟨cells, N, Y⟩ := Cl.news (h₀ := s.heap) (Nat.le_refl _) fun n c hm => ⟨x.cell n c (lookup_of_mem_nodup (cellsFrom_names scope.names 0 (s.heap.objs.size + 1) [] [] rfl ▸ hnd) hm), x.above n c hm⟩
  exact wpAny_mono (h h₁ tk cells ⟨x.toInCall.ns, x.toInCall.keep, x.toInCall.fresh⟩ N Y) (fun _ _ x => x) (fun _ _ x => x.elim)
end
end Mine
end
section
open PySem PySem.W PyProof.Rows
set_option maxRecDepth 100000
namespace Mine
theorem filled_ws : PySem.Challenge.rw_ku0043_01 = PySem.Challenge.rw_ku0043_01 ∧ K = K := by
  k_fill
  exact ⟨rfl, rfl⟩
set_option maxHeartbeats 8000000
set_option pp.maxSteps 20000
set_option pp.deepTerms false
set_option pp.deepTerms.threshold 6
def letterOf (c : Nat) : Nat := ((goodS.find? fun p => p.1 == c).map (·.2)).getD 0
def idxOf (d : Nat) : Nat := if d = 115 then 0 else if d = 97 then 1 else if d = 102 then 2 else 3
def Known (c : Nat) : Prop := c ∈ c8L ∨ c ∈ b1L ∨ (c, letterOf c) ∈ goodS
/-- what the server does at a sign -/
def stepS (σ : Int × List Int) (c : Int) : Int × List Int :=
  if c.toNat ∈ c8L then (1, σ.2) else if c.toNat ∈ b1L then σ else (σ.1, σ.2.set σ.1.toNat (Builtin.bitOr (σ.2.getD σ.1.toNat 0) (2 ^ idxOf (letterOf c.toNat))))
theorem good_letters : (goodS.all fun p => p.2 == 115 || p.2 == 97 || p.2 == 102 || p.2 == 100) = true := by decide +kernel
def SrvP (pre : List Int) (side : Int) (sides : List Int) : Prop := (side, sides) = pre.foldl stepS (0, [0, 0]) ∧ (0 ≤ side ∧ side ≤ 1) ∧ sides.length = 2
theorem srv0 : SrvP [] 0 [0, 0] := ⟨rfl, by decide, rfl⟩
theorem srv1 {pre : List Int} {side : Int} {sides : List Int} {c : Nat} (h : SrvP pre side sides) (hc : c ∈ c8L) : SrvP (pre ++ [(c : Int)]) 1 sides := by
  refine ⟨?_, by decide, h.2.2⟩
  rw [List.foldl_append, ← h.1]
  show _ = stepS _ _
  unfold stepS
  rw [Int.toNat_natCast, if_pos hc]
theorem srv2 {pre : List Int} {side : Int} {sides : List Int} {c : Nat} (h : SrvP pre side sides) (hc : ¬ c ∈ c8L) (hb : c ∈ b1L) : SrvP (pre ++ [(c : Int)]) side sides := by
  refine ⟨?_, h.2⟩
  rw [List.foldl_append, ← h.1]
  show _ = stepS _ _
  unfold stepS
  rw [Int.toNat_natCast, if_neg hc, if_pos hb]
theorem srv3 {pre : List Int} {side : Int} {sides : List Int} {c d : Nat} {v : Int} (h : SrvP pre side sides) (hc : ¬ c ∈ c8L) (hb : ¬ c ∈ b1L) (hd : letterOf c = d) (hv : v = Builtin.bitOr (sides.getD side.toNat 0) (2 ^ idxOf d)) : SrvP (pre ++ [(c : Int)]) side (sides.set side.toNat v) := by
  refine ⟨?_, h.2.1, by rw [List.length_set]; exact h.2.2⟩
  rw [List.foldl_append, ← h.1]
  show _ = stepS _ _
  unfold stepS
  rw [Int.toNat_natCast, if_neg hc, if_neg hb, hd, hv]
theorem known_mem {x : Str} {pre post : List Int} {c : Nat} (hk : ∀ c ∈ x.cps.toList, Known c) (e : KStt.codes x = pre ++ (c : Int) :: post) : Known c := by
  have h : (c : Int) ∈ KStt.codes x := by rw [e]; exact List.mem_append_right _ (.head _)
  unfold KStt.codes at h
  obtain ⟨y, hy, e⟩ := List.mem_map.mp h
  have : y = c := Int.ofNat.inj e
  exact hk c (this ▸ hy)
theorem spec_server (w : World) (x : Str) (a : Int) (l : Addr) (ns : List Int) (t u : Nat) (hk : ∀ c ∈ x.cps.toList, Known c) (hz : ns.length = 5) (hb : Bits ns) (ha : 0 ≤ a ∧ a < 5) {lft rgt : Int} (hres : (KStt.codes x).foldl stepS (0, [0, 0]) = (1, [lft, rgt])) : SpecK w 176 [.str x t] [("first", .int a u), ("mails", .ref l)] 4 20 (fun h => IntsAt h l ns) (fun _ v _ => ∃ t', v = .bytes (srvB a ns lft rgt) t') := by
  intro mean mg mb dp un fr gd s Q E tp hp hd hu hq
  obtain ⟨vs, hL, hI⟩ := hp
  have hI0 := hI
  have KX : (K w.params).In s.heap := tp.X
  have T := tp.T
  refine enterCK (scope := fScope (stAt pw 18)) (params := fArgs (stAt pw 18)) (body := fBody (stAt pw 18)) tp (by omega) rfl rfl (by rfl) (by rfl) (by rfl) (by decide +kernel) ?_ (by rfl) (by rfl) (by rfl)
  intro h₁ tk cells F N Y
  conv in (fBody _) => whnf
  have hY := CellsAre.two Y; obtain ⟨o', o2', hE', d1', d2'⟩ := hY; subst hE'; clear Y
  iterate 34 (first | walk1 | (dsimp only; walk1))
  (k_with "state" => first | assumption | exact srv0 | exact srv1 (by assumption) (by assumption) | exact srv2 (by assumption) (by assumption) (by assumption) | exact srv3 (by assumption) (by assumption) (by assumption) (by assumption) rfl)
  k_state (fun pre side sides => SrvP pre side sides) "side" "sides"
  · have hK := known_mem hk kEq
    have hs := kInv.2.1
    have hs2 := kInv.2.2
    k_steps
    refine Spec.use (spec_c8 w kN _) kFr kNews KX T trivial (by show dp + 1 + 1 < _; omega) (by show un + 3 + 10 < _; omega) ?_
    intro v h' tk' F' N' k' hv
    subst hv
    clear kFr kNews
    by_cases hc : kN ∈ c8L
    · rw [decide_eq_true hc]
      k_steps
    rw [decide_eq_false hc]
    k_steps
    rename_i F N
    refine Spec.use (spec_b1 w kN _) (by assumption) (by assumption) KX T trivial (by show dp + 1 + 1 < _; omega) (by show un + 3 + 10 < _; omega) ?_
    intro v h' tk' F' N' k' hv
    subst hv
    clear F N
    by_cases hb : kN ∈ b1L
    · rw [decide_eq_true hb]
      k_steps
    rw [decide_eq_false hb]
    have hg : (kN, letterOf kN) ∈ goodS := (hK.resolve_left hc).resolve_left hb
    have hl := List.all_eq_true.mp good_letters _ hg
    generalize hd4 : letterOf kN = d4 at hg hl
    k_steps
    refine Spec.use (spec_b3 w kN d4 _ hg) (by assumption) (by assumption) KX T trivial (by show dp + 1 + 1 < _; omega) (by show un + 3 + 10 < _; omega) ?_
    rintro v h' tk' F' N' k' ⟨t', rfl⟩
    simp only [Bool.or_eq_true, beq_iff_eq] at hl
    rcases hl with ((rfl | rfl) | rfl) | rfl
    · k_steps
      · exact absurd (show Txt.find (Str.ofString "safd") (one 115) = -1 by assumption) (by decide +kernel)
      · rw [show Txt.find (Str.ofString "safd") (one 115) = 0 by kernel_rfl]
        walk1
        walk1
        refine ksa_set F' N' (.head (by k_all)) kFacts hs.1 (by omega) (by omega) ?_
        intro h₃ F₃ N₃ hI₃ hz₃ hsum
        clear hsum
        have hP := srv3 kInv hc hb hd4 (rfl : Builtin.bitOr _ (2 ^ Int.toNat 0) = Builtin.bitOr _ (2 ^ idxOf 115))
        clear F' N' kInv hs hs2 hK hg
        dsimp only at N₃ hI₃ hP ⊢
        generalize Builtin.bitOr _ _ = bv at N₃ hI₃ hP hz₃
        iterate 4 walk1
        kst_close
    · k_steps
      · exact absurd (show Txt.find (Str.ofString "safd") (one 97) = -1 by assumption) (by decide +kernel)
      · rw [show Txt.find (Str.ofString "safd") (one 97) = 1 by kernel_rfl]
        walk1
        walk1
        refine ksa_set F' N' (.head (by k_all)) kFacts hs.1 (by omega) (by omega) ?_
        intro h₃ F₃ N₃ hI₃ hz₃ hsum
        clear hsum
        have hP := srv3 kInv hc hb hd4 (rfl : Builtin.bitOr _ (2 ^ Int.toNat 1) = Builtin.bitOr _ (2 ^ idxOf 97))
        clear F' N' kInv hs hs2 hK hg
        dsimp only at N₃ hI₃ hP ⊢
        generalize Builtin.bitOr _ _ = bv at N₃ hI₃ hP hz₃
        iterate 4 walk1
        kst_close
    · k_steps
      · exact absurd (show Txt.find (Str.ofString "safd") (one 102) = -1 by assumption) (by decide +kernel)
      · rw [show Txt.find (Str.ofString "safd") (one 102) = 2 by kernel_rfl]
        walk1
        walk1
        refine ksa_set F' N' (.head (by k_all)) kFacts hs.1 (by omega) (by omega) ?_
        intro h₃ F₃ N₃ hI₃ hz₃ hsum
        clear hsum
        have hP := srv3 kInv hc hb hd4 (rfl : Builtin.bitOr _ (2 ^ Int.toNat 2) = Builtin.bitOr _ (2 ^ idxOf 102))
        clear F' N' kInv hs hs2 hK hg
        dsimp only at N₃ hI₃ hP ⊢
        generalize Builtin.bitOr _ _ = bv at N₃ hI₃ hP hz₃
        iterate 4 walk1
        kst_close
    · k_steps
      · exact absurd (show Txt.find (Str.ofString "safd") (one 100) = -1 by assumption) (by decide +kernel)
      · rw [show Txt.find (Str.ofString "safd") (one 100) = 3 by kernel_rfl]
        walk1
        walk1
        refine ksa_set F' N' (.head (by k_all)) kFacts hs.1 (by omega) (by omega) ?_
        intro h₃ F₃ N₃ hI₃ hz₃ hsum
        clear hsum
        have hP := srv3 kInv hc hb hd4 (rfl : Builtin.bitOr _ (2 ^ Int.toNat 3) = Builtin.bitOr _ (2 ^ idxOf 100))
        clear F' N' kInv hs hs2 hK hg
        dsimp only at N₃ hI₃ hP ⊢
        generalize Builtin.bitOr _ _ = bv at N₃ hI₃ hP hz₃
        iterate 4 walk1
        kst_close
  · k_with_none
    obtain ⟨h1, h2, h3⟩ := kInv
    rw [hres] at h1
    obtain ⟨rfl, rfl⟩ := Prod.mk.inj h1
    iterate 15 (first | walk1 | (dsimp only; walk1))
    rename_i hR F₉ N₉ _
    dsimp only at N₉ hR ⊢
    refine kst_range (n := 5) (σ := Obj) (fun c => [_, _, (_, c), _]) (fun _ => []) (fun c => ∃ ov, c.data = .cell ov) [] (fun pre _ => ∀ j < pre.length, hit a ns lft rgt j = false) _ rfl hR (by rw [hz]; decide) (by rw [hz]; rfl) F₉ N₉ ⟨_, d1'⟩ (fun _ h => nomatch h) (fun _ h => nomatch h) ?_ ?_
    · intro c pre k t u h tk own hk9 hlt hoff hf hP F N
      clear F₉ N₉
      obtain ⟨ov, hov⟩ := hf
      dsimp only [kstB, List.cons_append, List.nil_append] at F N
      iterate 55 (first | walk1 | (dsimp only; walk1))
      · rename_i hA _ _ hB
        generalize hM : ns.getD ((a + k).fmod ↑ns.length).toNat 0 = M at *
        have hM2 : 0 ≤ M ∧ M < 16 := hM ▸ mail_bits hb hz _ (Int.fmod_nonneg_of_pos _ (by rw [hz]; decide)) (by rw [hz]; exact Int.fmod_lt_of_pos _ (by decide))
        rw [if_pos rfl]
        iterate 8 (first | walk1 | (dsimp only; walk1))
        rename Fr _ _ _ _ => F5
        rename News _ _ _ _ => N5
        refine comp_range F5 (pz := fun j => decide ((M.fdiv (2 ^ j.toNat)).fmod 2 = 1)) (d := fun j => .str (names4.getD j.toNat "")) rfl (by rfl) (by decide) (by rfl) (by decide) (by rfl) (by intro _; rfl) ?_
        iterate 7 (first | walk1 | (dsimp only; walk1))
        rename Fr _ _ _ _ => F6
        rename News _ _ _ _ => N6
        rename IsRange _ _ _ _ _ _ _ _ => R6
        try clear F5 N5
        refine ⟨_, _, _, _, _, _, _, _, 4, rfl, R6, by decide, by decide, by decide, F6, N6, ?_, ?_, ?_⟩
        · intro C a v s₂ m₂ E' hC ha hi hn hm hk
          obtain ⟨t, rfl⟩ := ItemKind.int_is hi
          obtain ⟨oC, eC, nC⟩ := LCg.ns_obj hn
          have N7 := news_comp F6 N6 hk hC eC
          have F7 := F6.keeps hk
          clear F6 N6 R6
          refine wpAny_tests_one ?_
          rcases range4 ha with rfl | rfl | rfl | rfl
          all_goals k_steps
          all_goals exact ⟨_, _, rfl, fun _ _ h => h⟩
        · intro C a v s₂ m₂ E' hC ha hi hp hn hm hk
          obtain ⟨t, rfl⟩ := ItemKind.int_is hi
          obtain ⟨oC, eC, nC⟩ := LCg.ns_obj hn
          have N7 := news_comp F6 N6 hk hC eC
          have F7 := F6.keeps hk
          clear F6 N6 R6
          rcases range4 ha with rfl | rfl | rfl | rfl
          all_goals k_steps
          all_goals first | exact Carried.str _ _ | exact ⟨_, _, rfl, fun _ _ h => h⟩
        · intro D ys h' tk F7 N7 hD hL hPl hC
          clear F6 N6 R6
          have hS : StrsAre ys (flagL M) := StrsAre.ofCarried (by unfold flagL; rw [List.map_map]; exact hC)
          clear hC
          iterate 1 (first | walk1 | (dsimp only; walk1))
          refine join_listW hL (by simpa using hS) (by decide) (flag_w hM2) ?_
          intro t' k'
          have hFL : (Txt.join (Str.ofString "") (flagL M)).length ≤ 64 := flag_len hM2
          generalize hFT : Txt.join (Str.ofString "") (flagL M) = FL at hFL ⊢
          k_steps
          have hJ : 1 ≤ (a + k).fmod ↑ns.length + 1 ∧ (a + k).fmod ↑ns.length + 1 ≤ 5 := by
            rw [hz]
            have h1 := Int.fmod_nonneg_of_pos (a + k) (b := ((5 : Nat) : Int)) (by decide)
            have h2 := Int.fmod_lt_of_pos (a + k) (b := ((5 : Nat) : Int)) (by decide)
            omega
          generalize hJT : (a + k).fmod ↑ns.length + 1 = J at hJ ⊢
          refine str_of_int_fit (N := 6) (by split <;> omega) (by decide) ?_
          intro hfit
          have hJL : (Str.ofString (toString J)).length ≤ 1 := digit_len hJ
          generalize hJS : Str.ofString (toString J) = JS at hJL ⊢
          k_steps
          subst hJS hFT
          refine GM.of _ (typeIs_str _ _ _) PySem.F.slot_str_encode PySem.F.type_str_encode GM.noRef ?_
          k_steps
          refine call_encode (enc_of hJ hM2 _) (len_of hJ hM2) ?_
          k_steps
          exact hq _ _ _ (Fr.keep (by assumption)) ⟨_, by rw [srv_hit hz hk9 hlt hP hM hA hB, hJT]⟩
      · rename_i h1
        have hP' := srv_miss hz hk9 hP (.inr h1)
        rw [if_neg (by decide)]
        k_steps
        rename Fr _ _ _ _ => F5
        rename News _ _ _ _ => N5
        rename (_ : Obj).data = Data.cell (some (Value.int _ _)) => dO
        exact kst_end _ F5 N5 (fun p hp => List.mem_append_left own hp) (fun p hp => List.mem_append_right [_, _, _, _] hp) rfl ⟨_, dO⟩ (fun _ h => nomatch h) (fun z h1 _ _ => by simp [h1]) hP'
      · rename_i h1
        have hP' := srv_miss hz hk9 hP (.inl h1)
        rw [if_neg (by decide)]
        k_steps
        rename Fr _ _ _ _ => F5
        rename News _ _ _ _ => N5
        rename (_ : Obj).data = Data.cell (some (Value.int _ _)) => dO
        exact kst_end _ F5 N5 (fun p hp => List.mem_append_left own hp) (fun p hp => List.mem_append_right [_, _, _, _] hp) rfl ⟨_, dO⟩ (fun _ h => nomatch h) (fun z h1 _ _ => by simp [h1]) hP'
    · intro c u h tk hf hP F N
      clear F₉ N₉
      dsimp only
      k_steps
      exact hq _ _ _ (Fr.keep (by assumption)) ⟨_, by rw [srv_none (fun j hj => hP j (by exact hj)), noMail_eq]⟩
end Mine
end
section
open PySem PySem.W PyProof.Rows
namespace Mine
/-! the plain law -/
abbrev Bit (x : Int) : Prop := 0 ≤ x ∧ x < 16
theorem fin_of {M : Int} (h : Bit M) : ∃ x : Fin 16, (x.val : Int) = M := ⟨⟨M.toNat, by have := h; unfold Bit at *; omega⟩, Int.toNat_of_nonneg h.1⟩
/-- a lies in b -/
abbrev Le (a b : Int) : Prop := Builtin.bitAnd b a = a
theorem bit_and {a b : Int} (ha : Bit a) (hb : Bit b) : Bit (Builtin.bitAnd a b) := by
  have h : ∀ x y : Fin 16, Bit (Builtin.bitAnd (x.val : Int) (y.val : Int)) := by decide +kernel
  obtain ⟨x, rfl⟩ := fin_of ha; obtain ⟨y, rfl⟩ := fin_of hb; exact h x y
theorem le_refl {a : Int} (ha : Bit a) : Le a a := by
  have h : ∀ x : Fin 16, Le (x.val : Int) (x.val : Int) := by decide +kernel
  obtain ⟨x, rfl⟩ := fin_of ha; exact h x
theorem le_trans {a b c : Int} (ha : Bit a) (hb : Bit b) (hc : Bit c) : Le a b → Le b c → Le a c := by
  have h : ∀ x y z : Fin 16, Le (x.val : Int) (y.val : Int) → Le (y.val : Int) (z.val : Int) → Le (x.val : Int) (z.val : Int) := by decide +kernel
  obtain ⟨x, rfl⟩ := fin_of ha; obtain ⟨y, rfl⟩ := fin_of hb; obtain ⟨z, rfl⟩ := fin_of hc; exact h x y z
theorem le_anti {a b : Int} (ha : Bit a) (hb : Bit b) : Le a b → Le b a → a = b := by
  have h : ∀ x y : Fin 16, Le (x.val : Int) (y.val : Int) → Le (y.val : Int) (x.val : Int) → (x.val : Int) = (y.val : Int) := by decide +kernel
  obtain ⟨x, rfl⟩ := fin_of ha; obtain ⟨y, rfl⟩ := fin_of hb; exact h x y
theorem le_and {a b c : Int} (ha : Bit a) (hb : Bit b) (hc : Bit c) : Le a (Builtin.bitAnd b c) ↔ Le a b ∧ Le a c := by
  have h : ∀ x y z : Fin 16, Le (x.val : Int) (Builtin.bitAnd (y.val : Int) (z.val : Int)) ↔ Le (x.val : Int) (y.val : Int) ∧ Le (x.val : Int) (z.val : Int) := by decide +kernel
  obtain ⟨x, rfl⟩ := fin_of ha; obtain ⟨y, rfl⟩ := fin_of hb; obtain ⟨z, rfl⟩ := fin_of hc; exact h x y z
theorem le_top {a : Int} (ha : Bit a) : Le a 15 := by
  have h : ∀ x : Fin 16, Le (x.val : Int) 15 := by decide +kernel
  obtain ⟨x, rfl⟩ := fin_of ha; exact h x
theorem le_int {a b : Int} (ha : Bit a) (hb : Bit b) : Le a b → a ≤ b := by
  have h : ∀ x y : Fin 16, Le (x.val : Int) (y.val : Int) → (x.val : Int) ≤ (y.val : Int) := by decide +kernel
  obtain ⟨x, rfl⟩ := fin_of ha; obtain ⟨y, rfl⟩ := fin_of hb; exact h x y
theorem le_sub {a b m : Int} (ha : Bit a) (hb : Bit b) (hm : Bit m) : Le a b → Bit (b - a) ∧ (Le b m ↔ Le a m ∧ Le (b - a) m) := by
  have h : ∀ x y z : Fin 16, Le (x.val : Int) (y.val : Int) → Bit ((y.val : Int) - (x.val : Int)) ∧ (Le (y.val : Int) (z.val : Int) ↔ Le (x.val : Int) (z.val : Int) ∧ Le ((y.val : Int) - (x.val : Int)) (z.val : Int)) := by decide +kernel
  obtain ⟨x, rfl⟩ := fin_of ha; obtain ⟨y, rfl⟩ := fin_of hb; obtain ⟨z, rfl⟩ := fin_of hm; exact h x y z
theorem bit15 : Bit 15 := by decide
end Mine
end
section
open PySem PySem.W PyProof.Rows
set_option maxRecDepth 100000
namespace Mine
/-! what the server reads in what was typed -/
def jsOf (M : Int) : List Int := (rangeInts 0 1 4).filter fun j => decide ((M.fdiv (2 ^ j.toNat)).fmod 2 = 1)
def codeS (c j : Int) : Nat := (sgL.getD ((c + j).fmod 12).toNat 0 + offL.getD j.toNat 0 - 97).toNat
theorem join_codes : ∀ (l : List Nat), Txt.join (Str.ofString "") (l.map one) = ⟨l.toArray⟩ := by
  intro l
  have h : Txt.join (Str.ofString "") (l.map one) = Str.join (Str.ofString "") (l.map one) := eq_of_beq (join_plain_closes _ _)
  rw [h]
  exact join_ones l
theorem codes_app (x y : Str) : KStt.codes (x ++ y) = KStt.codes x ++ KStt.codes y := by
  unfold KStt.codes
  rw [Str.cps_append, Array.toList_append, List.map_append]
theorem codes_one (n : Nat) : KStt.codes (one n) = [(n : Int)] := rfl
theorem codes_pick (M c : Int) : KStt.codes (Txt.join (Str.ofString "") (pickL M c)) = (jsOf M).map fun j => (codeS c j : Int) := by
  have e : pickL M c = ((jsOf M).map (codeS c)).map one := by unfold pickL jsOf; rw [List.map_map]; rfl
  rw [e, join_codes]
  unfold KStt.codes
  rw [List.map_map]
  rfl
def uns (i : Int) : Nat := (unsL.getD (i.fmod 27).toNat 0).toNat
def arr (i : Int) : Nat := (arrL.getD (i.fmod 15).toNat 0).toNat
theorem codes_typed (a b c : Int) : KStt.codes (typedT a b c) = (uns c : Int) :: ((jsOf a).map fun j => (codeS c j : Int)) ++ ((arr c : Int) :: ((jsOf b).map fun j => (codeS c j : Int)) ++ [(uns (c + 9) : Int)]) := by
  unfold typedT
  rw [codes_app, codes_app, codes_app, codes_app, codes_pick, codes_pick, codes_one, codes_one, codes_one]
  simp [uns, arr]
theorem fmod_fin (n : Nat) (i : Int) (h : 0 < n) : ∃ k : Fin n, (i.fmod n).toNat = k.val := by
  have h1 := Int.fmod_nonneg_of_pos i (b := (n : Int)) (by omega)
  have h2 := Int.fmod_lt_of_pos i (b := (n : Int)) (by omega)
  exact ⟨⟨(i.fmod n).toNat, by omega⟩, rfl⟩
theorem uns_b1 (i : Int) : uns i ∈ b1L ∧ ¬ uns i ∈ c8L := by
  have h : ∀ k : Fin 27, (unsL.getD k.val 0).toNat ∈ b1L ∧ ¬ (unsL.getD k.val 0).toNat ∈ c8L := by decide +kernel
  obtain ⟨k, hk⟩ := fmod_fin 27 i (by decide)
  unfold uns
  rw [show (27 : Int) = ((27 : Nat) : Int) from rfl, hk]
  exact h k
theorem arr_c8 (i : Int) : arr i ∈ c8L := by
  have h : ∀ k : Fin 15, (arrL.getD k.val 0).toNat ∈ c8L := by decide +kernel
  obtain ⟨k, hk⟩ := fmod_fin 15 i (by decide)
  unfold arr
  rw [show (15 : Int) = ((15 : Nat) : Int) from rfl, hk]
  exact h k
theorem code_good (c j : Int) (hj : j ∈ rangeInts 0 1 4) : (codeS c j, letterOf (codeS c j)) ∈ goodS ∧ idxOf (letterOf (codeS c j)) = j.toNat ∧ ¬ codeS c j ∈ c8L ∧ ¬ codeS c j ∈ b1L := by
  have h : ∀ k : Fin 12, ∀ j : Fin 4, ((sgL.getD k.val 0 + offL.getD j.val 0 - 97).toNat, letterOf (sgL.getD k.val 0 + offL.getD j.val 0 - 97).toNat) ∈ goodS ∧ idxOf (letterOf (sgL.getD k.val 0 + offL.getD j.val 0 - 97).toNat) = j.val ∧
      ¬ (sgL.getD k.val 0 + offL.getD j.val 0 - 97).toNat ∈ c8L ∧ ¬ (sgL.getD k.val 0 + offL.getD j.val 0 - 97).toNat ∈ b1L := by decide +kernel
  obtain ⟨k, hk⟩ := fmod_fin 12 (c + j) (by decide)
  unfold codeS
  rw [show (12 : Int) = ((12 : Nat) : Int) from rfl, hk]
  rcases range4 hj with rfl | rfl | rfl | rfl
  · exact h k 0
  · exact h k 1
  · exact h k 2
  · exact h k 3
def stp (σ : Int × List Int) (j : Int) : Int × List Int := (σ.1, σ.2.set σ.1.toNat (Builtin.bitOr (σ.2.getD σ.1.toNat 0) (2 ^ j.toNat)))
theorem fold_js (c : Int) : ∀ (js : List Int), (∀ j ∈ js, j ∈ rangeInts 0 1 4) → ∀ σ, (js.map fun j => (codeS c j : Int)).foldl stepS σ = js.foldl stp σ
  | [], _, _ => rfl
  | j :: js, h, σ => by
    obtain ⟨_, h2, h3, h4⟩ := code_good c j (h j (.head _))
    rw [List.map_cons, List.foldl_cons, List.foldl_cons, ← fold_js c js fun i hi => h i (.tail _ hi)]
    congr 1
    unfold stepS stp
    rw [Int.toNat_natCast, if_neg h3, if_neg h4, h2]
theorem js_sub (M : Int) : ∀ j ∈ jsOf M, j ∈ rangeInts 0 1 4 := fun j hj => (List.mem_filter.mp hj).1
theorem typed_res {a b : Int} (c : Int) (ha : Bit a) (hb : Bit b) : (KStt.codes (typedT a b c)).foldl stepS (0, [0, 0]) = (1, [a, b]) := by
  have h1 : ∀ a : Fin 16, (jsOf (a.val : Int)).foldl stp (0, [0, 0]) = (0, [(a.val : Int), 0]) := by decide +kernel
  have h2 : ∀ a b : Fin 16, (jsOf (b.val : Int)).foldl stp (1, [(a.val : Int), 0]) = (1, [(a.val : Int), (b.val : Int)]) := by decide +kernel
  obtain ⟨x, rfl⟩ := fin_of ha
  obtain ⟨y, rfl⟩ := fin_of hb
  have u1 := uns_b1 c
  have u2 := uns_b1 (c + 9)
  have a1 := arr_c8 c
  have s1 : ∀ σ, stepS σ (uns c : Int) = σ := fun σ => by unfold stepS; rw [Int.toNat_natCast, if_neg u1.2, if_pos u1.1]
  have s2 : ∀ σ, stepS σ (uns (c + 9) : Int) = σ := fun σ => by unfold stepS; rw [Int.toNat_natCast, if_neg u2.2, if_pos u2.1]
  have s3 : ∀ σ, stepS σ (arr c : Int) = (1, σ.2) := fun σ => by unfold stepS; rw [Int.toNat_natCast, if_pos a1]
  rw [codes_typed, List.foldl_append, List.foldl_cons, s1, fold_js c _ (js_sub _), h1, List.foldl_append, List.foldl_cons, List.foldl_nil, s2, List.foldl_cons, s3, fold_js c _ (js_sub _), h2]
theorem typed_known (a b c : Int) : ∀ x ∈ (typedT a b c).cps.toList, Known x := by
  have key : ∀ z ∈ KStt.codes (typedT a b c), ∃ n : Nat, z = (n : Int) ∧ Known n := by
    rw [codes_typed]
    have hj : ∀ M : Int, ∀ z ∈ (jsOf M).map (fun j => (codeS c j : Int)), ∃ n : Nat, z = (n : Int) ∧ Known n := by
      intro M z hz
      obtain ⟨j, hj, rfl⟩ := List.mem_map.mp hz
      exact ⟨_, rfl, .inr (.inr (code_good c j (js_sub M j hj)).1)⟩
    intro z hz
    rcases List.mem_append.mp hz with hz | hz
    · rcases List.mem_cons.mp hz with rfl | hz
      · exact ⟨_, rfl, .inr (.inl (uns_b1 c).1)⟩
      · exact hj a z hz
    · rcases List.mem_append.mp hz with hz | hz
      · rcases List.mem_cons.mp hz with rfl | hz
        · exact ⟨_, rfl, .inl (arr_c8 c)⟩
        · exact hj b z hz
      · rw [List.mem_singleton.mp hz]
        exact ⟨_, rfl, .inr (.inl (uns_b1 (c + 9)).1)⟩
  intro x hx
  obtain ⟨n, e, hn⟩ := key (x : Int) (List.mem_map.mpr ⟨x, hx, rfl⟩)
  rw [show x = n from Int.ofNat.inj e]
  exact hn
end Mine
end
section
open PySem PySem.W PyProof.Rows PySem.Calls
set_option maxRecDepth 100000
namespace Mine
/-! names in a dict -/
section
variable {prog : Program} {w : World} {A : Around} {E : Value → Shared → Prop} {s : Shared}
theorem nsSet_raw {d : Addr} {es : List DictEntry} {n : Nat} {k : Str} {v : Value} {Q : Unit → Shared → Prop} (D : s.heap.get? d = some (dictOf es n))
    (hs : ∀ e ∈ es, e.key.isStr k = false) (hr : ∀ e ∈ es, e.refKey = false)
    (h : ∀ h', h'.get? d = some (dictOf (es ++ [⟨PyData.keyHash w.params k, .str k s.toks, v⟩]) (n + 1)) → Heap.SameBut d s.heap h' → Q () { s with heap := h', toks := s.toks + 1 }) :
    wpAny (model prog w) A (nsSet d k v) Q E s := by
  have e1 : es.any (·.key.isStr k) = false := by
    cases q : es.any (·.key.isStr k) with
    | false => rfl
    | true => obtain ⟨e, he, z⟩ := List.any_eq_true.mp q; rw [hs e he] at z; cases z
  have e2 : es.any (·.refKey) = false := by
    cases q : es.any (·.refKey) with
    | false => rfl
    | true => obtain ⟨e, he, z⟩ := List.any_eq_true.mp q; rw [hr e he] at z; cases z
  have e : Obj.putName k (PyData.keyHash w.params k) (.str k s.toks) v (dictOf es n) = dictOf (es ++ [⟨PyData.keyHash w.params k, .str k s.toks, v⟩]) (n + 1) := by
    rw [putName_dict, putL_new hs]
    show dictOf _ (if es.any (·.key.isStr k) then n else n + 1) = _
    rw [e1, if_neg Bool.false_ne_true]
  have c : aRefKeyMayBeTheName k es.toArray = false := by
    rw [aRefKeyMayBeTheName_at, ← Array.any_toList, ← Array.any_toList]
    show (!es.any (·.key.isStr k) && es.any (·.refKey)) = false
    rw [e2, Bool.and_false]
  unfold nsSet
  refine wpAny_bind (wpAny_bind (wpAny_askSetting (wpAny_pure (wpAny_bind (wpAny_mkText (wpAny_bind (wpAny_loadPart D ?_)))))))
  dsimp only
  rw [c]
  refine wpAny_updatePart D (h _ ?_ (Heap.SameBut.update ..))
  rw [← e]
  exact Heap.get?_update_self _ D (by show (Obj.putName k (PyData.keyHash w.params k) (.str k s.toks) v (dictOf es n)).isFreed = false; rw [e]; rfl)
end
/-- the dict of two names -/
def two (P : Params) (t1 t2 : Tok) (k1 k2 : Str) (v1 v2 : Value) : List DictEntry := [⟨PyData.keyHash P k1, .str k1 t1, v1⟩, ⟨PyData.keyHash P k2, .str k2 t2, v2⟩]
section
variable {w : World} {mean : ExcName → Option Value} {mg mb : Str → Option Value} {dp un : Nat} {fr : Option (List Env)} {gd : Option (List Code)} {s : Shared} {Q E : Value → Shared → Prop} {f : Addr} {o : Obj}
    {name : Str} {params : Arguments} {body : List Stmt} {scope : Scope} {pm cd doc : Value} {args : List Value} {k1 k2 nm : Str} {v1 v2 : Value} {front : List (Str × Value)}
/-- into a def that takes further names in a dict; two are given -/
theorem enterMore (tp : Tp w mean mg mb s.heap) (hd : dp < recursionLimit) (ho : (K w.params).lookup f = some o) (hdata : o.data = .func (Calls.docDef name params body scope pm cd doc)) (hcd : codeIn (K w.params) cd name = true) (hne : ¬ k1 = k2)
    (hbind : bindArgs (Calls.docDef name params body scope pm cd doc) ⟨args, [(k1, v1), (k2, v2)]⟩ = (alloc { cls := .type "dict", data := .dict #[] } >>= fun D => forIn [(k1, v1), (k2, v2)] PUnit.unit (fun (x : Str × Value) (_ : PUnit) => (nsSet D x.1 x.2 >>= fun _ => pure (ForInStep.yield PUnit.unit))) >>= fun _ => pure (front ++ [(nm, Value.ref D)])))
    (hloc : ∀ D, ∀ x ∈ front ++ [(nm, Value.ref D)], scope.names.lookup x.1 = some .local)
    (h : ∀ h₀ D t1 t2 h₁ tk, (∀ b o, s.heap.get? b = some o → h₀.get? b = some o) → h₀.get? D = some (dictOf (two w.params t1 t2 k1 k2 v1 v2) 2) → (D == sysModules) = false → Fr h₀ h₀.objs.size h₁ (fun x => (front ++ [(nm, Value.ref D)]).reverse.lookup x) → News h₀ h₀.objs.size h₁ [] →
      wpAny (model pw w) ((Ar dp un fr gd).deeper (envOf name scope h₀.objs.size f cd)) (execs body (envOf name scope h₀.objs.size f cd))
        (fun f s' => Q (match f with | .ret v => v | _ => .none) s') (fun _ _ => False) { s with heap := h₁, toks := tk })
    (hco : scope.isCoroutine = false := by rfl) (hgen : scope.isGenerator = false := by rfl) (hk : scope.kind = .function := by rfl) (hcell : ∀ x ∈ scope.names, x.2 ≠ .cell := by decide) :
    wpAny (model pw w) (Ar dp un fr gd) (call (.ref f) args [(k1, v1), (k2, v2)]) Q E s := by
  refine wpAny_call ?_
  refine codeAny_call_function (fd := Calls.docDef name params body scope pm cd doc) (body := body) hd (K_get tp.X ho) hdata hco hgen rfl (codeRec_of tp.X hcd) ?_
  rw [hbind]
  refine wpAny_bind (wpAny_alloc ?_)
  have D0 : (s.heap.push { cls := .type "dict", data := .dict #[] }).get? s.heap.objs.size = some (dictOf [] 0) := Heap.get?_push_size _ rfl
  refine wpAny_bind ?_
  rw [List.forIn_cons]
  refine wpAny_bind (wpAny_bind (nsSet_raw D0 (fun _ h => nomatch h) (fun _ h => nomatch h) fun h1 D1 S1 => wpAny_pure ?_))
  dsimp only
  rw [List.forIn_cons]
  refine wpAny_bind (wpAny_bind (nsSet_raw (s := { s with heap := h1, toks := s.toks + 1 }) D1 (fun e he => ?_) (fun e he => ?_) fun h2 D2 S2 => wpAny_pure ?_))
  · rw [List.mem_singleton.mp he]
    show (k1 == k2) = false
    exact beq_eq_false_iff_ne.mpr hne
  · rw [List.mem_singleton.mp he]; rfl
  have kp : ∀ b o, s.heap.get? b = some o → h2.get? b = some o := fun b o e => S2.extBut b o (Nat.ne_of_lt (Heap.lt_size e)) (S1.extBut b o (Nat.ne_of_lt (Heap.lt_size e)) (Heap.get?_push_of_some _ e))
  dsimp only
  rw [List.forIn_nil]
  refine wpAny_pure ?_
  refine wpAny_pure (wpAny_newFunctionEnv hcell (hloc _) (fun h₁ hns hsb => ⟨(tp.T.nolimit.keeps kp).fresh _ hsb, ?_⟩) hk)
  show codeAny _ _ (.func body (envOf name scope h2.objs.size f cd)) _ _
  refine codeAny_func ?_
  exact wpAny_mono (h h2 _ s.toks (s.toks + 1) h₁ _ kp D2 (beq_eq_false_iff_ne.mpr (Nat.ne_of_gt (modules_low tp.T.nolimit))) ⟨hns, fun b o e => hsb.extBut b o (Nat.ne_of_lt (Heap.lt_size e)) (Heap.get?_push_of_some _ e), Nat.le_refl _⟩ News.nil) (fun _ _ x => x) (fun _ _ x => x.elim)
end
end Mine
end
section
open PySem PySem.W PyProof.Rows PySem.Calls
set_option maxRecDepth 100000
namespace Mine
section
variable {prog : Program} {w : World} {A : Around} {E : Value → Shared → Prop} {s : Shared}
def entN (P : Params) (t : Tok) (k : Str) (v : Value) : DictEntry := ⟨PyData.keyHash P k, .str k t, v⟩
theorem find_raw {d : Addr} {es : List DictEntry} {n : Nat} {k : Str} {t : Tok} {Q : Option Nat → Shared → Prop} (D : s.heap.get? d = some (dictOf es n)) (hk : ∀ e ∈ es, ∃ k' t' v', e = entN w.params t' k' v' ∧ k' ≠ k) (h : Q none s) :
    wpAny (model prog w) A (dictFind d (.str k t) (PyData.keyHash w.params k)) Q E s := by
  refine wpAny_dictFind_of (knd := PySem.strKind prog w) (k := k) (by simp [PySem.strKind, Value.isStrOf]) D rfl (fun e he => ?_) ?_
  · obtain ⟨k', t', v', rfl, _⟩ := hk e (by simpa using he)
    exact ⟨k', by simp [PySem.strKind, Value.isStrOf, entN], rfl⟩
  · have e : (es.toArray.findIdx? fun e => (PySem.strKind prog w).is k e.key) = none := Array.findIdx?_eq_none_iff.mpr fun e he => by
      obtain ⟨k', t', v', rfl, hne⟩ := hk e (by simpa using he)
      simp [PySem.strKind, Value.isStrOf, entN, hne]
    rw [e]
    exact h
theorem put_raw {d : Addr} {es : List DictEntry} {n : Nat} {k : Str} {t : Tok} {v : Value} {Q : Unit → Shared → Prop} (D : s.heap.get? d = some (dictOf es n)) (hk : ∀ e ∈ es, ∃ k' t' v', e = entN w.params t' k' v' ∧ k' ≠ k) (hz : es.length ≤ 10)
    (h : ∀ h', h'.get? d = some (dictOf (es ++ [entN w.params t k v]) (n + 1)) → Heap.SameBut d s.heap h' → Q () { s with heap := h' }) :
    wpAny (model prog w) A (dictPut d (PyData.keyHash w.params k) (.str k t) v) Q E s := by
  unfold dictPut
  refine wpAny_bind (find_raw D hk ?_)
  dsimp only
  refine wpAny_updateDictKeys D rfl (h _ ?_ (Heap.SameBut.update ..)) (by rw [List.size_toArray]; exact Nat.le_trans hz (by decide)) (by simp)
  have e : Obj.mapDictKeys (fun x => x.push (entN w.params t k v)) (dictOf es n) = dictOf (es ++ [entN w.params t k v]) (n + 1) := by
    show ({ cls := .type "dict", data := .dict (es.toArray.push (entN w.params t k v)) (n + 1) } : Obj) = _
    rw [List.push_toArray]
  have := Heap.get?_update_self (Obj.mapDictKeys (fun x => x.push (entN w.params t k v))) D (by rw [e]; rfl)
  rw [e] at this
  exact this
theorem iter_dict : typeLookup (.type "dict") "__iter__" = pure (some (.builtin "dict.__iter__")) := PySem.F.slot_dict_iter.lookup
theorem merge_raw {d a : Addr} {t1 t2 : Tok} {k1 k2 : Str} {v1 v2 : Value} {Q : Unit → Shared → Prop} (D : s.heap.get? d = some (dictOf [] 0)) (Da : s.heap.get? a = some (dictOf (two w.params t1 t2 k1 k2 v1 v2) 2)) (had : a ≠ d) (hs : (a == sysModules) = false) (hne : ¬ k1 = k2)
    (h : ∀ h', h'.get? d = some (dictOf (two w.params t1 t2 k1 k2 v1 v2) 2) → Heap.SameBut d s.heap h' → Q () { s with heap := h' }) :
    wpAny (model prog w) A (mergeMapping d (.ref a) true) Q E s := by
  have hT : s.TypeIs (.ref a) "dict" := ⟨_, Da, rfl⟩
  unfold mergeMapping
  refine wpAny_bind (wpAny_isInstance hT (b := true) (by rw [isSubtype_type]; kernel_rfl) ?_)
  dsimp only
  rw [if_pos rfl]
  refine wpAny_bind (wpAny_specialOf hT iter_dict ?_)
  rw [show ((some (Value.builtin "dict.__iter__")) == some (Value.builtin "dict.__iter__")) = true by decide +kernel]
  show wpAny _ _ (if (a == sysModules) = true then _ else _) _ _ _
  rw [hs, if_neg Bool.false_ne_true]
  refine wpAny_bind (wpAny_dictEntries D rfl ?_)
  rw [if_pos (by rfl)]
  refine wpAny_bind (wpAny_dictEntries Da rfl ?_)
  have nk : ∀ x : Str × Value, x.1 = k2 → ¬ k1 = x.1 := fun x e h => hne (h.trans e)
  have first : ∀ (g : DictEntry → PUnit → Sem (ForInStep PUnit)) (Q : PUnit → Shared → Prop), (∀ t k v, g (entN w.params t k v) PUnit.unit = pure (ForInStep.yield PUnit.unit)) → Q PUnit.unit s → wpAny (model prog w) A (forIn (two w.params t1 t2 k1 k2 v1 v2).toArray PUnit.unit g) Q E s := by
    intro g Q hg hq
    rw [List.forIn_toArray]
    show wpAny _ _ (forIn [entN w.params t1 k1 v1, entN w.params t2 k2 v2] PUnit.unit g) _ _ _
    rw [List.forIn_cons, hg]
    refine wpAny_bind (wpAny_pure ?_)
    show wpAny _ _ (forIn [entN w.params t2 k2 v2] PUnit.unit g) _ _ _
    rw [List.forIn_cons, hg]
    exact wpAny_bind (wpAny_pure (wpAny_pure hq))
  refine wpAny_bind (first _ _ (fun _ _ _ => rfl) ?_)
  refine wpAny_bind (wpAny_dictEntries Da rfl ?_)
  refine wpAny_bind (wpAny_dictEpoch Da rfl ?_)
  refine wpAny_bind ?_
  show wpAny _ _ (forIn [0, 1] PUnit.unit _) _ _ _
  rw [List.forIn_cons]
  refine wpAny_bind ?_
  refine wpAny_bind (wpAny_dictEntries Da rfl ?_)
  refine wpAny_bind (wpAny_holding (vs := [.str k1 t1, v1]) ?_)
  rw [if_pos rfl]
  refine wpAny_bind (find_raw (k := k1) D (fun _ h => nomatch h) ?_)
  rw [if_neg (by decide)]
  refine put_raw (k := k1) (t := t1) (v := v1) D (fun _ h => nomatch h) (by decide) fun h1 D1 S1 => ?_
  have Da1 := S1.extBut _ _ had Da
  refine wpAny_bind (wpAny_dictEpoch Da1 rfl ?_)
  rw [if_neg (by simp)]
  refine wpAny_pure ?_
  show wpAny _ _ (forIn [1] PUnit.unit _) _ _ _
  rw [List.forIn_cons]
  refine wpAny_bind ?_
  refine wpAny_bind (wpAny_dictEntries Da1 rfl ?_)
  refine wpAny_bind (wpAny_holding (vs := [.str k2 t2, v2]) ?_)
  rw [if_pos rfl]
  have hk2 : ∀ e ∈ [entN w.params t1 k1 v1], ∃ k' t' v', e = entN w.params t' k' v' ∧ k' ≠ k2 := fun e he => ⟨k1, t1, v1, List.mem_singleton.mp he, hne⟩
  refine wpAny_bind (find_raw (k := k2) D1 hk2 ?_)
  rw [if_neg (by decide)]
  refine put_raw (k := k2) (t := t2) (v := v2) D1 hk2 (by show 1 ≤ 10; decide) fun h2 D2 S2 => ?_
  have Da2 := S2.extBut _ _ had Da1
  refine wpAny_bind (wpAny_dictEpoch Da2 rfl ?_)
  rw [if_neg (by simp)]
  refine wpAny_pure (wpAny_pure (wpAny_pure ?_))
  exact h h2 D2 ⟨S2.1.trans S1.1, fun b hb => (S2.2 b hb).trans (S1.2 b hb)⟩
theorem names_raw {f : Value} {d : Addr} {t1 t2 : Tok} {k1 k2 : Str} {v1 v2 : Value} {Q : List (Str × Value) → Shared → Prop} (D : s.heap.get? d = some (dictOf (two w.params t1 t2 k1 k2 v1 v2) 2)) (h : Q [(k1, v1), (k2, v2)] s) :
    wpAny (model prog w) A (keywordsIn f d) Q E s := by
  unfold keywordsIn
  refine wpAny_bind (wpAny_dictEntries D rfl ?_)
  rw [List.forIn_toArray]
  unfold two
  rw [List.forIn_cons]
  refine wpAny_bind (wpAny_bind (wpAny_pure ?_))
  dsimp only
  rw [List.forIn_cons]
  refine wpAny_bind (wpAny_pure ?_)
  dsimp only
  rw [List.forIn_nil]
  exact wpAny_pure (wpAny_pure h)
theorem merged_raw {f : Value} {x : Sem Value} {D : Addr} {t1 t2 : Tok} {k1 k2 : Str} {v1 v2 : Value} {Q : Addr → Shared → Prop} (hne : ¬ k1 = k2) (hD : s.heap.get? D = some (dictOf (two w.params t1 t2 k1 k2 v1 v2) 2)) (hs : (D == sysModules) = false)
    (hx : ∀ (E' : Value → Shared → Prop) (Q' : Value → Shared → Prop), Q' (.ref D) { s with heap := s.heap.push (dictOf [] 0) } → wpAny (model prog w) A x Q' E' { s with heap := s.heap.push (dictOf [] 0) })
    (h : ∀ h', h'.get? s.heap.objs.size = some (dictOf (two w.params t1 t2 k1 k2 v1 v2) 2) → (∀ b o, s.heap.get? b = some o → h'.get? b = some o) → Q s.heap.objs.size { s with heap := h' }) :
    wpAny (model prog w) A (mergedKeywords f [(none, x)]) Q E s := by
  have hDlt : D ≠ s.heap.objs.size := Nat.ne_of_lt (Heap.lt_size hD)
  unfold mergedKeywords
  refine wpAny_bind (wpAny_alloc ?_)
  refine wpAny_bind (wpAny_holding ?_)
  dsimp only
  refine wpAny_bind ?_
  rw [List.forIn_cons]
  refine wpAny_bind ?_
  refine wpAny_bind (wpAny_pure ?_)
  refine wpAny_bind (hx _ _ ?_)
  refine wpAny_bind (wpAny_onRaise (wpAny_holding (wpAny_tryCatch (wpAny_onRaise ?_))))
  refine merge_raw (t1 := t1) (t2 := t2) (k1 := k1) (k2 := k2) (v1 := v1) (v2 := v2) (Heap.get?_push_size _ rfl) (Heap.get?_push_of_some _ hD) hDlt hs hne fun h' D' S' => ?_
  refine wpAny_pure ?_
  dsimp only
  rw [List.forIn_nil]
  refine wpAny_pure ?_
  refine wpAny_pure (wpAny_pure ?_)
  exact h h' D' fun b o e => S'.extBut b o (Nat.ne_of_lt (Heap.lt_size e)) (Heap.get?_push_of_some _ e)
end
section
variable {w : World} {A : Around} {E : Value → Shared → Prop} {s : Shared} {P : Frag}
/-- a call with one argument and a dict of two names -/
theorem callWith_more {f : Value} {first : List Value} {pos : Pos} {y x : Sem Value} {v : Value} {D : Addr} {t1 t2 : Tok} {k1 k2 : Str} {v1 v2 : Value} {Q : Value → Shared → Prop} {prog : Program} (hk : keepIn P f = true) (X : P.In s.heap) (hne : ¬ k1 = k2)
    (hD : s.heap.get? D = some (dictOf (two w.params t1 t2 k1 k2 v1 v2) 2)) (hs : (D == sysModules) = false)
    (hy : ∀ (E' : Value → Shared → Prop) (Q' : Value → Shared → Prop), Q' v s → wpAny (model prog w) A y Q' E' s)
    (hx : ∀ (E' : Value → Shared → Prop) (Q' : Value → Shared → Prop), Q' (.ref D) { s with heap := s.heap.push (dictOf [] 0) } → wpAny (model prog w) A x Q' E' { s with heap := s.heap.push (dictOf [] 0) })
    (h : ∀ h', (∀ b o, s.heap.get? b = some o → h'.get? b = some o) → wpAny (model prog w) A (call f (first ++ [v]) [(k1, v1), (k2, v2)]) Q E { s with heap := h' }) :
    wpAny (model prog w) A (callWith pos f first [(false, y)] [(none, x)]) Q E s := by
  unfold callWith
  refine wpAny_bind (wpAny_holding ?_)
  unfold evalArgs
  refine wpAny_bind ?_
  refine wpAny_bind ?_
  rw [spliced]
  refine hy _ _ ?_
  dsimp only
  rw [if_neg (by decide)]
  refine wpAny_bind (wpAny_pure ?_)
  refine wpAny_bind (wpAny_holding (wpAny_pure ?_))
  refine wpAny_pure ?_
  refine wpAny_bind (wpAny_pure ?_)
  dsimp only
  refine wpAny_holding ?_
  rw [if_neg (by simp)]
  refine wpAny_bind (merged_raw hne hD hs hx fun h' D' k' => ?_)
  refine wpAny_bind (wpAny_pure ?_)
  refine wpAny_bind (wpAny_holding (names_raw D' ?_))
  refine wpAny_pure ?_
  refine wpAny_bind (wpAny_standAt ?_)
  obtain ⟨k, hk', L⟩ := keeps_K hk _ (X.keeps k')
  refine wpAny_bind (L.here ?_)
  have h1 := h h' k'
  have tail : ∀ {t : Sem Value}, wpAny (model prog w) A t Q E { s with heap := h' } → wpAny (model prog w) A (t >>= fun r => holding [r] point >>= fun _ => pure r) Q E { s with heap := h' } :=
    fun ht => wpAny_bind (wpAny_mono ht (fun r s₂ hr => wpAny_bind (wpAny_holding (wpAny_point (wpAny_pure hr)))) fun _ _ x => x)
  have marked (mk : Value) : wpAny (model prog w) A (callMarked mk f (first ++ [v]) [(k1, v1), (k2, v2)]) Q E { s with heap := h' } := by unfold callMarked; exact Calls.wpAny_keep h1
  rcases hk' with rfl | rfl | rfl <;> dsimp only <;> first | exact tail (marked _) | exact tail (wpAny_operating h1)
end
end Mine
end
section
open PySem PySem.W PyProof.Rows
set_option maxRecDepth 100000
namespace Mine
theorem filled_wi : PySem.Challenge.rw_ku0043_01 = PySem.Challenge.rw_ku0043_01 ∧ K = K := by
  k_fill
  exact ⟨rfl, rfl⟩
set_option maxHeartbeats 4000000
set_option pp.maxSteps 20000
set_option pp.deepTerms false
set_option pp.deepTerms.threshold 6
theorem Fresh.back {h h₀ h' : Heap} {a : Addr} {o : Obj} (k : ∀ b o, h.get? b = some o → h₀.get? b = some o) (x : Fresh h₀ h' a o) : Fresh h h' a o := by
  refine ⟨?_, x.2⟩
  cases e : h.get? a with
  | none => rfl
  | some o' => have := k _ _ e; rw [x.1] at this; cases this
theorem IntsAt.keeps {h h' : Heap} (k : ∀ b o, h.get? b = some o → h'.get? b = some o) {l : Addr} {ns : List Int} (x : IntsAt h l ns) : IntsAt h' l ns := let ⟨vs, a, b⟩ := x; ⟨vs, a.at fun o e => k _ o e, b⟩
/-- a pair comes back -/
def PairIs (P : Value → Value → Prop) (h : Heap) (v : Value) (h' : Heap) : Prop := ∃ a o x y n, v = .ref a ∧ Fresh h h' a o ∧ o = ({ cls := .type "tuple", data := .seq #[x, y] n } : Obj) ∧ P x y
theorem spec_info_none (w : World) (x fv mv : Value) : SpecK w 73 [x, .none] [("first", fv), ("mails", mv)] 1 100 (fun _ => True) (PairIs fun a b => a = .ref 66 ∧ ∃ t, b = .str (Str.ofString "") t) := by
  intro mean mg mb dp un fr gd s Q E tp hp hd hu hq
  refine enterMore (scope := fScope (stAt pw 7)) (params := fArgs (stAt pw 7)) (body := fBody (stAt pw 7)) (front := [("name_index", x), ("get_name", .none)]) (nm := "extrainfo") tp (by omega) rfl rfl (by rfl) (by decide) (by rfl) (fun _ => locs (by rfl)) ?_ (by rfl) (by rfl) (by rfl) (by decide +kernel)
  intro h₀ D t1 t2 h₁ tk kp hD hDs F N
  have KX : (K w.params).In h₀ := tp.X.keeps kp
  have T := tp.T.keeps kp
  conv in (fBody _) => whnf
  k_steps
  rename Fr _ _ _ _ => F9
  rename News _ _ _ _ => N9
  exact hq _ _ _ (fun b o e => F9.keep b o (kp b o e)) ⟨_, _, _, _, _, rfl, (Fresh.of N9 (.head _)).back kp, rfl, rfl, _, rfl⟩
theorem spec_info_srv (w : World) (x : Str) (a : Int) (l : Addr) (ns : List Int) (t u : Nat) (hk : ∀ c ∈ x.cps.toList, Known c) (hz : ns.length = 5) (hb : Bits ns) (ha : 0 ≤ a ∧ a < 5) {lft rgt : Int} (hres : (KStt.codes x).foldl stepS (0, [0, 0]) = (1, [lft, rgt])) :
    SpecK w 73 [.str x t, .ref 176] [("first", .int a u), ("mails", .ref l)] 6 200 (fun h => IntsAt h l ns) (PairIs fun v₁ v₂ => ∃ t', v₁ = .bytes (srvB a ns lft rgt) t' ∧ v₂ = v₁) := by
  intro mean mg mb dp un fr gd s Q E tp hp hd hu hq
  refine enterMore (scope := fScope (stAt pw 7)) (params := fArgs (stAt pw 7)) (body := fBody (stAt pw 7)) (front := [("name_index", .str x t), ("get_name", .ref 176)]) (nm := "extrainfo") tp (by omega) rfl rfl (by rfl) (by decide) (by rfl) (fun _ => locs (by rfl)) ?_ (by rfl) (by rfl) (by rfl) (by decide +kernel)
  intro h₀ D t1 t2 h₁ tk kp hD hDs F N
  have KX : (K w.params).In h₀ := tp.X.keeps kp
  have T := tp.T.keeps kp
  conv in (fBody _) => whnf
  iterate 12 (first | walk1 | (dsimp only; walk1))
  refine callWith_more (P := K w.params) (v := .str x t) (D := D) (t1 := t1) (t2 := t2) (k1 := "first") (k2 := "mails") (v1 := .int a u) (v2 := .ref l) (by rfl) (KX.keeps F.keep) (by decide) (F.keep _ _ hD) hDs ?_ ?_ ?_
  · intro E' Q' hq'
    rw [if_neg (by decide)]
    k_steps
    exact hq'
  · intro E' Q' hq'
    have F2 := F.push (dictOf [] 0)
    have N2 := N.push F (dictOf [] 0)
    clear F N
    dsimp only
    generalize h₁.push _ = H2 at F2 N2 hq' ⊢
    refine wpAny_bind ?_
    k_steps
    exact wpAny_bind (wpAny_standAt (wpAny_pure hq'))
  · intro h2 k2
    have F2 := F.keeps k2
    have N2 := N.grown k2
    clear F N
    refine SpecK.use (spec_server w x a l ns _ _ hk hz hb ha hres) F2 N2 KX T (hp.keeps (fun b o e => F2.keep b o (kp b o e))) (by show dp + 1 + 4 < _; omega) (by show un + 3 + 20 < _; omega) ?_
    rintro v h3 tk3 F3 N3 k3 ⟨t', rfl⟩
    clear F2 N2
    k_steps
    rename Fr _ _ _ _ => F9
    rename News _ _ _ _ => N9
    exact hq _ _ _ (fun b o e => F9.keep b o (kp b o e)) ⟨_, _, _, _, _, rfl, (Fresh.of N9 (.head _)).back kp, rfl, _, rfl, rfl⟩
end Mine
end
section
open PySem PySem.W PyProof.Rows PySem.SeqAt
set_option maxRecDepth 100000
namespace Mine
/-! equality of tuples, by items -/
section
variable {prog : Program} {w : World} {A : Around} {E : Value → Shared → Prop} {s : Shared}
theorem eqAt_bytes (a : Array UInt8) (t : Tok) (b : Array UInt8) (u : Tok) : EqAt A s (.bytes a t) (.bytes b u) (a.toList == b.toList) := fun prog w E Q h => by
  unfold eqBool
  refine wpAny_holding ?_
  refine wpAny_ite_split (fun hab => ?_) (fun _ => ?_)
  · have e : a = b := by have := eq_of_beq hab; injection this
    subst e
    exact wpAny_bind (wpAny_rule (wpAny_pure (by simpa using h)))
  · exact wpAny_bind (eq_bytes (wpAny_truthy_bool h))
theorem BytsAre.at : ∀ {vs : List Value} {bs : List (Array UInt8)}, BytsAre vs bs → ∀ j (h : j < vs.length), ∃ b t, bs[j]? = some b ∧ vs[j] = .bytes b t
  | _, _, .cons b t _, 0, _ => ⟨b, t, rfl, rfl⟩
  | _, _, .cons _ _ r, j + 1, h => r.at j (Nat.lt_of_succ_lt_succ h)
theorem ne_tuple_of {l b : Addr} {items items2 : Array Value} {Q : Value → Shared → Prop} (hl : s.heap.IsTuple l items) (hb : s.heap.IsTuple b items2) (hu : A.units < cLine) (hz : items.size = items2.size)
    (he : ∀ j (h1 : j < items.size) (h2 : j < items2.size), EqAt A.in1 s items[j] items2[j] true) (h : Q (.bool false) s) : wpAny (model prog w) A (compareOp .NotEq (.ref l) (.ref b)) Q E s := by
  refine RcNeAt.tuples (e := fun _ => true) hl hb hu he prog w E Q ?_
  have e : (!((List.range (min items.size items2.size)).all (fun _ => true) && items.size == items2.size)) = false := by simp [hz]
  rw [e]
  exact h
theorem ne_byts {l b : Addr} {vs us : List Value} {L : List (Array UInt8)} {Q : Value → Shared → Prop} (hl : s.heap.IsTuple l vs.toArray) (hb : s.heap.IsTuple b us.toArray) (hv : BytsAre vs L) (hus : BytsAre us L) (hu : A.units < cLine)
    (h : Q (.bool false) s) : wpAny (model prog w) A (compareOp .NotEq (.ref l) (.ref b)) Q E s := by
  refine ne_tuple_of hl hb hu (by rw [List.size_toArray, List.size_toArray, hv.length, hus.length]) (fun j h1 h2 => ?_) h
  obtain ⟨x, t, e1, e2⟩ := hv.at j (by simpa using h1)
  obtain ⟨y, u, e3, e4⟩ := hus.at j (by simpa using h2)
  rw [e1] at e3
  cases e3
  have := eqAt_bytes (A := A.in1) (s := s) x t x u
  rw [beq_self_eq_true] at this
  simpa [e2, e4] using this
theorem eq_none {l b : Addr} {vs : List Value} {L : List (Array UInt8)} {Q : Value → Shared → Prop} (hl : s.heap.IsTuple l vs.toArray) (hb : s.heap.IsTuple b #[]) (hv : BytsAre vs L) (hu : A.units < cLine)
    (h : Q (.bool L.isEmpty) s) : wpAny (model prog w) A (compareOp .Eq (.ref l) (.ref b)) Q E s := by
  refine eq_tupleAt (e := fun _ => true) hl hb hu (fun j _ h2 => absurd h2 (Nat.not_lt_zero _)) ?_
  have e : ((List.range (min vs.toArray.size (#[] : Array Value).size)).all (fun _ => true) && vs.toArray.size == (#[] : Array Value).size) = L.isEmpty := by
    rw [List.size_toArray, hv.length]
    cases L <;> simp
  rw [e]
  exact h
/-- a bytes among those of a tuple -/
theorem in_byts {l : Addr} {vs : List Value} {L : List (Array UInt8)} {x : Array UInt8} {t : Tok} {Q : Value → Shared → Prop} (hl : s.heap.IsTuple l vs.toArray) (hv : BytsAre vs L) (h : Q (.bool (L.any fun y => y.toList == x.toList)) s) :
    wpAny (model prog w) A (compareOp .In (.bytes x t) (.ref l)) Q E s := by
  have key : ∀ {vs : List Value} {L : List (Array UInt8)}, BytsAre vs L → (vs.any fun v => match v with | .bytes b _ => b.toList == x.toList | _ => false) = L.any fun y => y.toList == x.toList := by
    intro vs L h
    induction h with
    | nil => rfl
    | cons b t r ih => rw [List.any_cons, List.any_cons, ih]
  have mem : ∀ {vs : List Value} {L : List (Array UInt8)}, BytsAre vs L → ∀ y ∈ vs, ∃ b u, y = .bytes b u := by
    intro vs L h
    induction h with
    | nil => intro y hy; cases hy
    | cons b t r ih =>
      intro y hy
      rcases List.mem_cons.mp hy with rfl | hy
      · exact ⟨_, _, rfl⟩
      · exact ih y hy
  refine in_tupleAt (fun v => match v with | .bytes b _ => b.toList == x.toList | _ => false) hl (fun y hy => ?_) ?_
  · obtain ⟨b, u, rfl⟩ := mem hv y (by simpa using hy)
    exact eqAt_bytes _ _ _ _
  · rw [List.any_toArray, key hv]
    exact h
end
end Mine
end
section
open PySem PySem.W PyProof.Rows PySem.SeqAt PySem.Calls
set_option maxRecDepth 100000
namespace Mine
/-! a comprehension over a list of bytes that passes some of them on -/
def bytK : ItemKind (Array UInt8) := ⟨fun a v => ∃ t, v = .bytes a t, fun v => match v with | .bytes a _ => some a | _ => none, fun _ _ h => by obtain ⟨t, rfl⟩ := h; rfl⟩
theorem BytsAre.areOf : ∀ {vs : List Value} {bs : List (Array UInt8)}, BytsAre vs bs → AreOf bytK vs bs
  | _, _, .nil => .nil
  | _, _, .cons _ t h => .cons ⟨t, rfl⟩ h.areOf
theorem byt_paired (pz : Array UInt8 → Bool) : ∀ {vs : List Value} {as : List (Array UInt8)}, AreOf bytK vs as → ∀ ys : List Value,
    Paired (fun v y => ∃ a, bytK.is a v ∧ ∃ t, y = .bytes a t) (vs.filter (bytK.lift pz)) ys → BytsAre ys (as.filter pz)
  | _, _, .nil, ys, h => by cases h; exact .nil
  | _, _, .cons (a := a) hi hr, ys, h => by
    cases hp : pz a with
    | false =>
      rw [List.filter_cons_of_neg (by rw [ItemKind.lift_is hi, hp]; exact Bool.false_ne_true)] at h
      rw [List.filter_cons_of_neg (by simp [hp])]
      exact byt_paired pz hr ys h
    | true =>
      rw [List.filter_cons_of_pos (by rw [ItemKind.lift_is hi, hp])] at h
      rw [List.filter_cons_of_pos hp]
      cases h with
      | cons hF ht =>
        obtain ⟨a', hi', t, rfl⟩ := hF
        have e : a = a' := by
          have h1 := bytK.ok _ _ hi
          rw [bytK.ok _ _ hi'] at h1
          cases h1
          rfl
        subst e
        exact .cons _ _ (byt_paired pz hr _ ht)
section
variable {prog : Program} {w : World} {A : Around} {E : Value → Shared → Prop} {s : Shared} {h₀ : Heap} {L : Addr} {m : Str → Option Value} {env : Env}
theorem comp_byts {elt iter : PySem.Expr} {x : Str} {px : Pos} {ifs : List PySem.Expr} {scope : Scope} {cl : List (Str × Addr)} {pos : Pos} {Q : Value → Shared → Prop} {pz : Array UInt8 → Bool} (_F : Fr h₀ L s.heap m)
    (hh : A.handled = none) (hclos : closureFor scope env = pure cl) (hcell : ∀ y ∈ scope.names, y.2 ≠ .cell) (hkind : scope.kind = .function)
    (hnames : ∀ y ∈ scope.names, y.2 = .local → scope.names.lookup y.1 = some .local) (hx : scope.names.lookup x = some .local) (hs : ∀ x, foldedSetIterable iter env x = pure x)
    (h : wpAny (model prog w) A (eval iter env) (fun xv s₁ => ∃ news : List (Addr × Obj), ∃ ax vs as, xv = .ref ax ∧ s₁.heap.IsList ax (List.toArray vs) ∧ BytsAre vs as ∧ as.length ≤ sizeLine ∧ Fr h₀ L s₁.heap m ∧ News h₀ L s₁.heap news ∧
      (∀ C a v s₂ m₂ E', s₁.heap.objs.size ≤ C → a ∈ as → bytK.is a v → s₂.heap.Ns (compEnvC scope cl C env).locals m₂ → m₂ x = some v → (∀ b o, s₁.heap.get? b = some o → s₂.heap.get? b = some o) →
        wpAny (model prog w) A (forIn ifs true fun c r => if r = true then do let ok ← isTrue c (compEnvC scope cl C env) (eval c (compEnvC scope cl C env)); pure (ForInStep.yield ok) else pure (ForInStep.yield r))
          (fun ok s₃ => ok = pz a ∧ Keeps s₂ s₃) E' s₂) ∧
      (∀ C a v s₂ m₂ E', s₁.heap.objs.size ≤ C → a ∈ as → bytK.is a v → pz a = true → s₂.heap.Ns (compEnvC scope cl C env).locals m₂ → m₂ x = some v → (∀ b o, s₁.heap.get? b = some o → s₂.heap.get? b = some o) →
        wpAny (model prog w) A (eval elt (compEnvC scope cl C env)) (fun y s₃ => (∃ t, y = .bytes a t) ∧ Keeps s₂ s₃) E' s₂) ∧
      (∀ D (ys : List Value) h' tk, Fr h₀ L h' m → News h₀ L h' news → h₀.get? D = none → h'.IsList D ys.toArray → NewPlain h' news D ys.toArray → BytsAre ys (as.filter pz) → Q (.ref D) { s₁ with heap := h', toks := tk })) E s) :
    wpAny (model prog w) A (eval (.ListComp elt [⟨.Name x px, iter, ifs, 0⟩] scope pos) env) Q E s := by
  refine wpAny_ListComp_free (bytK.lift pz) (fun v y => ∃ a, bytK.is a v ∧ ∃ t, y = .bytes a t) hclos hcell hkind hnames hx (wpAny_mono h (fun xv s₁ h₁ => ?_) fun _ _ e => e) hs
  obtain ⟨news, ax, vs, as, rfl, hl, hb, hsz, F, N, htests, helt, hQ⟩ := h₁
  have hi := hb.areOf
  have hlt : ax < s₁.heap.objs.size := by obtain ⟨_, e, _⟩ := hl; exact Heap.lt_size e
  have up : ∀ (s₃ : Shared), (∀ b o, b ∉ [s₁.heap.objs.size] → (s₁.heap.push { cls := .type "list_iterator", data := .fields #[.ref ax, .int 0 0] }).get? b = some o → s₃.heap.get? b = some o) → ∀ b o, s₁.heap.get? b = some o → s₃.heap.get? b = some o :=
    fun s₃ hk b o e => hk b o (fun hm => by rcases List.mem_cons.mp hm with rfl | hm; exact Nat.lt_irrefl _ (Heap.lt_size e); cases hm) (Heap.get?_push_of_some _ e)
  refine wpAny_pyIter_list hl ⟨s₁.heap.objs.size, [s₁.heap.objs.size, ax], [s₁.heap.objs.size], (List.toArray vs).size, _, _, rfl, Walks.list hh _ _ (Nat.ne_of_lt hlt) (List.toArray vs), (by rw [List.size_toArray, hi.length]; exact hsz), ⟨⟨_, Heap.get?_push_size _ rfl, rfl, rfl⟩, hl.push _⟩, ?_, ⟨?_, ?_⟩, ?_⟩
  · intro b hb
    show b < (s₁.heap.push _).objs.size
    rw [Heap.size_push]
    rcases List.mem_cons.mp hb with rfl | hb
    · exact Nat.lt_succ_self _
    · rcases List.mem_cons.mp hb with rfl | hb
      · exact Nat.lt_succ_of_lt hlt
      · cases hb
  · intro C i v s₃ m₃ E' hC hP hn hm hk _
    obtain ⟨a, hmem, ha⟩ := hi.memD v (by simpa using Array.mem_of_getElem? hP)
    rw [ItemKind.lift_is ha]
    exact htests C a v s₃ m₃ E' (Nat.le_of_succ_le (by simpa [Heap.size_push] using hC)) hmem ha hn hm (up s₃ hk)
  · intro C i v s₃ m₃ E' hC hP hp hn hm hk _
    obtain ⟨a, hmem, ha⟩ := hi.memD v (by simpa using Array.mem_of_getElem? hP)
    rw [ItemKind.lift_is ha] at hp
    exact wpAny_mono (helt C a v s₃ m₃ E' (Nat.le_of_succ_le (by simpa [Heap.size_push] using hC)) hmem ha hp hn hm (up s₃ hk)) (fun y s₄ h₄ => ⟨⟨a, ha, h₄.1⟩, h₄.2⟩) fun _ _ e => e
  · intro D h' tk ys vs' hnew hlD hplD hlen hP hF hk
    have e : vs' = vs := by simpa using list_of_places hlen hP
    subst e
    have keep : ∀ b o, s₁.heap.get? b = some o → h'.get? b = some o := up { s₁ with heap := h' } hk
    refine hQ D ys.toList h' tk (F.keeps keep) (N.grown keep) ?_ (by rw [Array.toArray_toList]; exact hlD) ⟨by rw [Array.toArray_toList]; exact hplD, fun p hp e => by rw [← e, Heap.get?_push_of_some _ (N p hp).1] at hnew; cases hnew⟩ (byt_paired pz hi _ hF)
    cases e : h₀.get? D with
    | none => rfl
    | some o' => rw [Heap.get?_push_of_some _ (F.keep _ _ e)] at hnew; cases hnew
end
end Mine
end
section
open PySem PySem.W PyProof.Rows
set_option maxRecDepth 100000
namespace Mine
/-- a mail's words hold a name as the mail's bit says -/
theorem word_in {M : Int} (h : 0 ≤ M ∧ M < 16) {j : Nat} (hj : j < 4) : ((by8 rcB :: (fwB M).map by8).any fun y => y.toList == (by8 (nmB.getD j [])).toList) = decide ((M.fdiv (2 ^ j)).fmod 2 = 1) := by
  have hd : ∀ (x : Fin 16) (i : Fin 4), ((by8 rcB :: (fwB (x.val : Int)).map by8).any fun y => y.toList == (by8 (nmB.getD i.val [])).toList) = decide (((x.val : Int).fdiv (2 ^ i.val)).fmod 2 = 1) := by decide +kernel
  obtain ⟨y, rfl⟩ := fin16 h
  exact hd y ⟨j, hj⟩
theorem words_keep {M : Int} (h : 0 ≤ M ∧ M < 16) : (nmB.map by8).filter (fun x => (by8 rcB :: (fwB M).map by8).any fun y => y.toList == x.toList) = (fwB M).map by8 := by
  rw [List.filter_map]
  have hd : ∀ x : Fin 16, nmB.filter ((fun z => (by8 rcB :: (fwB (x.val : Int)).map by8).any fun y => y.toList == z.toList) ∘ by8) = fwB (x.val : Int) := by decide +kernel
  obtain ⟨y, rfl⟩ := fin16 h
  rw [hd y]
theorem words_sum {M : Int} (h : 0 ≤ M ∧ M < 16) : (((rangeInts 0 1 4).filter fun j => decide ((M.fdiv (2 ^ j.toNat)).fmod 2 = 1)).map fun j => (2 : Int) ^ j.toNat).sum = M := by
  have hd : ∀ x : Fin 16, (((rangeInts 0 1 4).filter fun j => decide (((x.val : Int).fdiv (2 ^ j.toNat)).fmod 2 = 1)).map fun j => (2 : Int) ^ j.toNat).sum = (x.val : Int) := by decide +kernel
  obtain ⟨y, rfl⟩ := fin16 h
  exact hd y
end Mine
end
section
open PySem PySem.W PyProof.Rows PySem.Calls PyProof.Rows.LCg
set_option maxRecDepth 100000
namespace Mine
/-! a comprehension over a list of pairs of ints -/
inductive TupsAre (h : Heap) : List Addr → List (Int × Int) → Prop
  | nil : TupsAre h [] []
  | cons {t : Addr} {ts : List Addr} {p : Int × Int} {R : List (Int × Int)} (ta tb : Tok) : h.IsTuple t #[.int p.1 ta, .int p.2 tb] → TupsAre h ts R → TupsAre h (t :: ts) (p :: R)
theorem TupsAre.keeps {h h' : Heap} (k : ∀ b o, h.get? b = some o → h'.get? b = some o) : ∀ {ts : List Addr} {R : List (Int × Int)}, TupsAre h ts R → TupsAre h' ts R
  | _, _, .nil => .nil
  | _, _, .cons ta tb a r => .cons ta tb (a.at fun o e => k _ o e) (r.keeps k)
theorem TupsAre.length {h : Heap} : ∀ {ts : List Addr} {R : List (Int × Int)}, TupsAre h ts R → ts.length = R.length
  | _, _, .nil => rfl
  | _, _, .cons _ _ _ r => by rw [List.length_cons, List.length_cons, r.length]
theorem TupsAre.get {h : Heap} : ∀ {ts : List Addr} {R : List (Int × Int)}, TupsAre h ts R → ∀ j, j < R.length → ∃ t p ta tb, ts[j]? = some t ∧ R[j]? = some p ∧ h.IsTuple t #[.int p.1 ta, .int p.2 tb]
  | _, _, .nil, j, hj => absurd hj (Nat.not_lt_zero _)
  | _, _, .cons (t := t) (p := p) ta tb a _, 0, _ => ⟨t, p, ta, tb, rfl, rfl, a⟩
  | _, _, .cons _ _ _ r, j + 1, hj => r.get j (Nat.lt_of_succ_lt_succ hj)
/-- a list of pairs -/
def PairsAt (h : Heap) (l : Addr) (R : List (Int × Int)) : Prop := ∃ ts, h.IsList l (ts.map Value.ref).toArray ∧ TupsAre h ts R
theorem PairsAt.keeps {h h' : Heap} (k : ∀ b o, h.get? b = some o → h'.get? b = some o) {l : Addr} {R : List (Int × Int)} (x : PairsAt h l R) : PairsAt h' l R :=
  let ⟨ts, a, b⟩ := x; ⟨ts, a.at fun o e => k _ o e, b.keeps k⟩
section
variable {prog : Program} {w : World} {A : Around} {E : Value → Shared → Prop} {s : Shared}
theorem cpp_loop {elt target iter : PySem.Expr} {ifs : List PySem.Expr} {scope : Scope} {pos : Pos} {it acc : Value} {env : Env} {R : Result → Shared → Prop} (I : Nat → Shared → Prop)
    (turn : ∀ n s, I n s → wpAny (model prog w) A (pyNext it) (fun r s₁ => match r with
      | none => R (.ok .next) s₁
      | some v => wpAny (model prog w) A (letOwnedTupleGo target it v) (fun _ s₀ => wpAny (model prog w) A (assign target env v) (fun _ s₂ =>
          wpAny (model prog w) A (forIn ifs true fun c r => if r = true then do let ok ← isTrue c env (eval c env); pure (ForInStep.yield ok) else pure (ForInStep.yield r)) (fun ok s₃ => if ok = true then wpAny (model prog w) A (eval elt env) (fun x s₄ =>
            wpAny (model prog w) A (call (.builtin "list.append") [acc, x]) (fun _ s₅ => ∃ m, m < n ∧ I m s₅) (notedBy (model prog w) A env fun e s' => R (.error e) s') s₄) (notedBy (model prog w) A env fun e s' => R (.error e) s') s₃
            else ∃ m, m < n ∧ I m s₃) (notedBy (model prog w) A env fun e s' => R (.error e) s') s₂)
          (notedBy (model prog w) A env fun e s' => R (.error e) s') s₀) (notedBy (model prog w) A env fun e s' => R (.error e) s') s₁) (notedBy (model prog w) A env fun e s' => R (.error e) s') s)
    (n : Nat) (h : I n s) : codeAny (model prog w) A (.compLoop (.ListComp elt [⟨target, iter, ifs, 0⟩] scope pos) 0 it acc env) R s := by
  refine codeAny_loop rfl I (fun n s hI => ?_) n h
  show wpAny _ A ((compTurn (.ListComp elt [⟨target, iter, ifs, 0⟩] scope pos) 0 it acc env).onRaise (fun x => do noteFrame x env; theTreesLotGoes x)) _ _ s
  refine wpAny_noted ?_
  rw [compTurn_list]
  refine wpAny_bind (wpAny_standAt (wpAny_bind (wpAny_mono (turn n s hI) (fun r s₁ h₁ => ?_) fun _ _ h' => h')))
  cases r with
  | none => exact wpAny_pure h₁
  | some v =>
    refine wpAny_bind (wpAny_mono h₁ (fun _ s₀ h₀' => ?_) fun _ _ h' => h')
    refine wpAny_bind (wpAny_mono h₀' (fun _ s₂ h₂ => ?_) fun _ _ h' => h')
    refine wpAny_bind (wpAny_mono h₂ (fun okb s₃ h₃ => ?_) fun _ _ h' => h')
    cases okb with
    | false => exact wpAny_pure ⟨rfl, h₃⟩
    | true => exact wpAny_bind (wpAny_bind (wpAny_mono h₃ (fun x s₄ h₄ => wpAny_bind (wpAny_mono h₄ (fun _ s₅ h₅ => wpAny_pure (wpAny_pure ⟨rfl, h₅⟩)) fun _ _ h' => h')) fun _ _ h' => h'))
end
section
variable {prog : Program} {w : World} {A : Around} {E : Value → Shared → Prop} {s : Shared} {h₀ : Heap} {L : Addr} {m : Str → Option Value} {env : Env}
theorem comp_pairs {elt iter : PySem.Expr} {a b : Str} {pa pb tp : Pos} {kk : Nat} {ifs : List PySem.Expr} {scope : Scope} {cl : List (Str × Addr)} {pos : Pos} {Q : Value → Shared → Prop} {pz : Int × Int → Bool} {d : Int × Int → PyData} (_F : Fr h₀ L s.heap m)
    (hh : A.handled = none) (hclos : closureFor scope env = pure cl) (hcell : ∀ y ∈ scope.names, y.2 ≠ .cell) (hkind : scope.kind = .function)
    (hnames : ∀ y ∈ scope.names, y.2 = .local → scope.names.lookup y.1 = some .local) (hxa : scope.names.lookup a = some .local) (hxb : scope.names.lookup b = some .local) (hab : ¬ a = b) (hs : ∀ x, foldedSetIterable iter env x = pure x)
    (h : wpAny (model prog w) A (eval iter env) (fun xv s₁ => ∃ news : List (Addr × Obj), ∃ ax R, xv = .ref ax ∧ PairsAt s₁.heap ax R ∧ R.length ≤ sizeLine ∧ Fr h₀ L s₁.heap m ∧ News h₀ L s₁.heap news ∧
      (∀ C p ta tb s₂ m₂ E', s₁.heap.objs.size ≤ C → p ∈ R → s₂.heap.Ns (compEnvC scope cl C env).locals m₂ → m₂ a = some (.int p.1 ta) → m₂ b = some (.int p.2 tb) → (∀ b o, s₁.heap.get? b = some o → s₂.heap.get? b = some o) →
        wpAny (model prog w) A (forIn ifs true fun c r => if r = true then do let ok ← isTrue c (compEnvC scope cl C env) (eval c (compEnvC scope cl C env)); pure (ForInStep.yield ok) else pure (ForInStep.yield r))
          (fun ok s₃ => ok = pz p ∧ Keeps s₂ s₃) E' s₂) ∧
      (∀ C p ta tb s₂ m₂ E', s₁.heap.objs.size ≤ C → p ∈ R → pz p = true → s₂.heap.Ns (compEnvC scope cl C env).locals m₂ → m₂ a = some (.int p.1 ta) → m₂ b = some (.int p.2 tb) → (∀ b o, s₁.heap.get? b = some o → s₂.heap.get? b = some o) →
        wpAny (model prog w) A (eval elt (compEnvC scope cl C env)) (fun y s₃ => Carried y (d p) ∧ Keeps s₂ s₃) E' s₂) ∧
      (∀ D (ys : List Value) h' tk, Fr h₀ L h' m → News h₀ L h' news → h₀.get? D = none → h'.IsList D ys.toArray → NewPlain h' news D ys.toArray → CarriedAll ys ((R.filter pz).map d) → (∀ b o, s₁.heap.get? b = some o → h'.get? b = some o) → Q (.ref D) { s₁ with heap := h', toks := tk })) E s) :
    wpAny (model prog w) A (eval (.ListComp elt [⟨.Tuple [.Name a pa, .Name b pb] kk tp, iter, ifs, 0⟩] scope pos) env) Q E s := by
  rw [eval_ListComp]
  refine wpAny_comprehension_free (use := none) rfl hs hclos hkind hnames (wpAny_mono h (fun xv s₁ h₁ => ?_) fun _ _ e => e)
  obtain ⟨news, ax, R, rfl, ⟨ts, hl, hT⟩, hsz, F, N, htests, helt, hQ⟩ := h₁
  have hlen : ts.length = R.length := hT.length
  refine wpAny_pyIter_list hl ?_
  have haxlt : ax < s₁.heap.objs.size := by obtain ⟨_, e, _⟩ := hl; exact Heap.lt_size e
  -- the places
  have hget := hT.get
  generalize hI : s₁.heap.objs.size = I
  generalize hH1 : s₁.heap.push { cls := .type "list_iterator", data := .fields #[.ref ax, .int 0 0] } = H1
  have keep1 : ∀ b o, s₁.heap.get? b = some o → H1.get? b = some o := fun b o e => hH1 ▸ Heap.get?_push_of_some _ e
  have hI1 : I < H1.objs.size := by rw [← hH1, Heap.size_push, ← hI]; exact Nat.lt_succ_self _
  refine wpAny_newObj_type (wpAny_newFunctionEnv hcell (by intro y hy; simp at hy) (fun h₁ hns₁ hsb₁ => ?_) hkind)
  dsimp only at hns₁ hsb₁ ⊢
  generalize hH2 : H1.push { cls := .type "list", dict := none, data := .seq ([] : List Value).toArray } = H2 at hns₁ hsb₁ ⊢
  have hC : H2.objs.size = H1.objs.size + 1 := by rw [← hH2, Heap.size_push]
  have below : ∀ b, b < H1.objs.size → b ≠ H2.objs.size := fun b hb => by rw [hC]; exact Nat.ne_of_lt (Nat.lt_succ_of_lt hb)
  have hDC : H1.objs.size ≠ H2.objs.size := by rw [hC]; exact Nat.ne_of_lt (Nat.lt_succ_self _)
  have old : ∀ b o, H1.get? b = some o → h₁.get? b = some o := fun b o e => hsb₁.extBut b o (below b (Heap.lt_size e)) (Heap.get?_push_of_some _ (hH2 ▸ Heap.get?_push_of_some _ e))
  have hacc : h₁.PlainList H1.objs.size #[] := ⟨_, hsb₁.extBut _ _ hDC (Heap.get?_push_of_some _ (hH2 ▸ Heap.get?_push_size _ rfl))⟩
  have hit₁ : h₁.IsListIter I ax 0 := ⟨_, old _ _ (by rw [← hH1, ← hI]; exact Heap.get?_push_size _ rfl), rfl, rfl⟩
  have hIC : I ≠ H2.objs.size := by omega
  have hID : I ≠ H1.objs.size := by omega
  have hp : ((compEnvC scope cl H2.objs.size env).scope.kind == .class || ((compEnvC scope cl H2.objs.size env).scope.kind == .module && (compEnvC scope cl H2.objs.size env).locals != (compEnvC scope cl H2.objs.size env).globals)) = false := by simp [compEnvC, relabel, hkind]
  have loop : ∀ s₃ : Shared, s₃ = { s₁ with heap := h₁, toks := s₁.toks + ([] : List (Str × Value)).length } →
      codeAny (model prog w) A (.compLoop (.ListComp elt [⟨.Tuple [.Name a pa, .Name b pb] kk tp, iter, ifs, 0⟩] scope pos) 0 (.ref I) (.ref H1.objs.size) (compEnvC scope cl H2.objs.size env))
        (compPost (model prog w) A E none Q (.ref H1.objs.size) H2.objs.size) s₃ := by
    rintro s₃ rfl
    refine cpp_loop
      (fun k s' => ∃ h' tk i m' ys, s' = { s₁ with heap := h', toks := tk } ∧ i ≤ R.length ∧ k = R.length + 1 - i ∧ h'.IsListIter I ax i ∧ h'.PlainList H1.objs.size ys ∧ h'.Ns H2.objs.size m' ∧
        CarriedAll ys.toList (((R.take i).filter pz).map d) ∧ ys.size ≤ i ∧ (∀ b o, b ≠ H2.objs.size → b ≠ I → b ≠ H1.objs.size → h₁.get? b = some o → h'.get? b = some o)) ?_ (R.length + 1)
      ⟨h₁, _, 0, _, #[], rfl, Nat.zero_le _, rfl, hit₁, hacc, hns₁, .nil, Nat.le_refl _, fun _ _ _ _ _ e => e⟩
    rintro k s' ⟨H, tk, i, m', ys, rfl, hi, rfl, hit, hpl, hn, hcar, hys, hk⟩
    have keepS : ∀ b o, s₁.heap.get? b = some o → H.get? b = some o := fun b o e => by
      have : @LT.lt Nat _ b s₁.heap.objs.size := Heap.lt_size e
      exact hk b o (by omega) (by omega) (by omega) (old b o (keep1 b o e))
    have hlH : H.IsList ax (ts.map Value.ref).toArray := hl.at fun o e => keepS _ o e
    have hsize : (ts.map Value.ref).toArray.size = R.length := by simp [hlen]
    by_cases hlt : i < R.length
    · obtain ⟨t, p, ta, tb, e1, e2, hTup⟩ := hget i hlt
      refine wpAny_pyNext_list_item hit hlH (x := .ref t) (by simp [e1]) fun h₂ hit₂ hs₂ => ?_
      dsimp only
      have htlt : @LT.lt Nat _ t s₁.heap.objs.size := by obtain ⟨_, e, _⟩ := hTup; exact Heap.lt_size e
      have htI : t ≠ I := by rw [← hI]; exact Nat.ne_of_lt htlt
      have hTup₂ : h₂.IsTuple t #[.int p.1 ta, .int p.2 tb] := hTup.at fun o e => hs₂.extBut t o htI (keepS t o e)
      refine wpAny_letOwnedTupleGo_listiter hit₂ ?_
      refine kcp_assign (env := compEnvC scope cl H2.objs.size env) hh hTup₂ (lookup_relabel_local hxa) (lookup_relabel_local hxb) hp (hn.at' fun o e => hs₂.extBut _ o (Ne.symm hIC) e) fun h₃ tk₃ hn₃ hs₃ => ?_
      have keep₃ : ∀ b o, b ≠ I → b ≠ H2.objs.size → H.get? b = some o → h₃.get? b = some o := fun b o h1 h2 e => hs₃ b o h2 (hs₂.extBut b o h1 e)
      have keepS₃ : ∀ b o, s₁.heap.get? b = some o → h₃.get? b = some o := fun b o e => by
        have : @LT.lt Nat _ b s₁.heap.objs.size := Heap.lt_size e
        exact keep₃ b o (by omega) (by omega) (keepS b o e)
      have hCle : s₁.heap.objs.size ≤ H2.objs.size := by omega
      have hmem : p ∈ R := List.mem_of_getElem? e2
      have htake : R.take (i + 1) = R.take i ++ [p] := by rw [List.take_add_one, e2]; rfl
      have hit₃ : h₃.IsListIter I ax (i + 1) := hit₂.at fun o e => hs₃ _ o hIC e
      have hpl₃ : h₃.PlainList H1.objs.size ys := hpl.at fun o e => keep₃ _ o (Ne.symm hID) hDC e
      refine wpAny_mono (htests H2.objs.size p ta tb _ _ _ hCle hmem hn₃ (by simp [hab]) (by simp) keepS₃) (fun ok s₄ h₄ => ?_) fun _ _ e => e
      obtain ⟨rfl, h₄, tk₄, rfl, hk₄⟩ := h₄
      cases hpz : pz p with
      | false =>
        simp only [Bool.false_eq_true, if_false]
        refine ⟨R.length + 1 - (i + 1), by omega, h₄, tk₄, i + 1, _, ys, rfl, hlt, rfl, hit₃.at fun o e => hk₄ _ o e, hpl₃.at fun o e => hk₄ _ o e, hn₃.keeps hk₄, ?_, Nat.le_succ_of_le hys, fun b o h1 h2 h3 e => hk₄ b o (keep₃ b o h2 h1 (hk b o h1 h2 h3 e))⟩
        rw [htake, List.filter_append]
        simpa [hpz] using hcar
      | true =>
        simp only [if_true]
        refine wpAny_mono (helt H2.objs.size p ta tb _ _ _ hCle hmem hpz (hn₃.keeps hk₄) (by simp [hab]) (by simp) fun b o e => hk₄ b o (keepS₃ b o e)) (fun y s₅ h₅ => ?_) fun _ _ e => e
        obtain ⟨hy, h₅, tk₅, rfl, hk₅⟩ := h₅
        refine wpAny_list_append_plain (hsz := by omega) ((hpl₃.at fun o e => hk₄ _ o e).at fun o e => hk₅ _ o e) fun h₆ hl₆ hs₆ => ?_
        refine ⟨R.length + 1 - (i + 1), by omega, h₆, tk₅, i + 1, _, ys.push y, rfl, hlt, rfl, ((hit₃.at fun o e => hk₄ _ o e).at fun o e => hk₅ _ o e).at fun o e => hs₆.extBut _ o hID e, hl₆, ((hn₃.keeps hk₄).keeps hk₅).sameBut hs₆ (Ne.symm hDC), ?_, by rw [Array.size_push]; omega,
          fun b o h1 h2 h3 e => hs₆.extBut b o h3 (hk₅ b o (hk₄ b o (keep₃ b o h2 h1 (hk b o h1 h2 h3 e))))⟩
        rw [htake, List.filter_append, List.map_append, Array.toList_push]
        refine CarriedAll.appendLM hcar ?_
        simp only [List.filter_cons, hpz, if_true, List.filter_nil, List.map_cons, List.map_nil]
        exact .cons hy .nil
    · have hin : i = R.length := by omega
      subst hin
      refine wpAny_pyNext_list_end hh hit hlH (by simp [hlen]) fun h₂ he₂ => ?_
      dsimp only
      refine ⟨m', hn.at' fun o e => he₂ _ o (Ne.symm hIC) e, fun h₃ hs₃ => ?_⟩
      have keep₃ : ∀ b o, b ≠ I → b ≠ H2.objs.size → H.get? b = some o → h₃.get? b = some o := fun b o h1 h2 e => hs₃.extBut b o h2 (he₂ b o h1 e)
      have keepS₃ : ∀ b o, s₁.heap.get? b = some o → h₃.get? b = some o := fun b o e => by
        have : @LT.lt Nat _ b s₁.heap.objs.size := Heap.lt_size e
        exact keep₃ b o (by omega) (by omega) (keepS b o e)
      have hpl₃ : h₃.PlainList H1.objs.size ys := hpl.at fun o e => keep₃ _ o (Ne.symm hID) hDC e
      rw [List.take_length] at hcar
      refine hQ H1.objs.size ys.toList h₃ _ (F.keeps keepS₃) (N.grown keepS₃) ?_ (by rw [Array.toArray_toList]; exact hpl₃.isList) ⟨by rw [Array.toArray_toList]; exact hpl₃, fun p hp e => ?_⟩ hcar keepS₃
      · cases e : h₀.get? H1.objs.size with
        | none => rfl
        | some o' => have : @LT.lt Nat _ H1.objs.size s₁.heap.objs.size := Heap.lt_size (F.keep _ _ e); omega
      · have : @LT.lt Nat _ p.1 s₁.heap.objs.size := Heap.lt_size (N p hp).1
        have e' : @Eq Nat p.1 H1.objs.size := e
        omega
  exact codeAny_compStart_list (loop _ rfl) (wpAny_pyIter_listiter hit₁ (loop _ rfl))
end
end Mine
end
section
open PySem PySem.W PyProof.Rows
set_option maxRecDepth 100000
namespace Mine
theorem filled_wk : PySem.Challenge.rw_ku0043_01 = PySem.Challenge.rw_ku0043_01 ∧ K = K := by
  k_fill
  exact ⟨rfl, rfl⟩
def brk (flags : Int) (p : Int × Int) : Bool := Builtin.bitAnd flags p.1 == p.1 && Builtin.bitAnd flags p.2 != p.2
set_option maxHeartbeats 4000000
set_option pp.maxSteps 20000
set_option pp.deepTerms false
set_option pp.deepTerms.threshold 6
theorem spec_keeps (w : World) (x : Int) (t : Nat) (l : Addr) (R : List (Int × Int)) (hz : R.length ≤ 16) : Spec w 195 [.int x t, .ref l] 1 100 (fun h => PairsAt h l R) (fun _ v _ => v = .bool (R.filter (brk x)).isEmpty) := by
  intro mean mg mb dp un fr gd s Q E tp hp hd hu hq
  have KX : (K w.params).In s.heap := tp.X
  have T := tp.T
  refine enterC (scope := fScope (stAt pw 21)) (params := fArgs (stAt pw 21)) (body := fBody (stAt pw 21)) tp (by omega) rfl rfl (by rfl) (by rfl) (by rfl) (by decide +kernel) ?_ (by rfl) (by rfl) (by rfl)
  intro h₁ tk cells F N Y
  conv in (fBody _) => whnf
  have hY := CellsAre.one Y; obtain ⟨o', hE', d1'⟩ := hY; subst hE'; clear Y
  iterate 3 walk1
  rename Fr _ _ _ _ => F5
  rename News _ _ _ _ => N5
  refine comp_pairs F5 (pz := brk x) (d := fun p => .int p.1) rfl (by rfl) (by decide) (by rfl) (by decide) (by rfl) (by rfl) (by decide) (by intro _; rfl) ?_
  iterate 1 (first | walk1 | (dsimp only; walk1))
  rename Fr _ _ _ _ => F6
  rename News _ _ _ _ => N6
  refine ⟨_, l, R, rfl, hp.keeps F6.keep, Nat.le_trans hz (by decide), F6, N6, ?_, ?_, ?_⟩
  · intro C p ta tb s₂ m₂ E' hC ha hn hma hmb hk
    obtain ⟨oC, eC, nC⟩ := LCg.ns_obj hn
    have N7 := news_comp F6 N6 hk hC eC
    have F7 := F6.keeps hk
    clear F6 N6
    refine wpAny_tests_one ?_
    k_steps
    all_goals first | exact ⟨_, _, rfl, fun _ _ h => h⟩ | (unfold brk; simp_all)
  · intro C p ta tb s₂ m₂ E' hC ha hp hn hma hmb hk
    obtain ⟨oC, eC, nC⟩ := LCg.ns_obj hn
    have N7 := news_comp F6 N6 hk hC eC
    have F7 := F6.keeps hk
    clear F6 N6
    k_steps
    · exact Carried.int _ _
    · exact ⟨_, _, rfl, fun _ _ h => h⟩
  · intro D ys h' tk F7 N7 hD hL hPl hC hk
    clear F6 N6
    k_steps
    refine hq _ _ _ (Fr.keep (by assumption)) ?_
    congr 1
    cases h : R.filter (brk x) with
    | nil => rfl
    | cons a r => rfl
end Mine
end
section
open PySem PySem.W PyProof.Rows
set_option maxRecDepth 100000
namespace Mine
theorem filled_wj : PySem.Challenge.rw_ku0043_01 = PySem.Challenge.rw_ku0043_01 ∧ K = K := by
  k_fill
  exact ⟨rfl, rfl⟩
/-- what the sets with `left` have in common -/
def meetL (left : Int) (ns : List Int) : Int := ns.foldl (fun σ n => if (Builtin.bitAnd n left == left) = true then Builtin.bitAnd σ n else σ) 15
theorem meet_pair (left : Int) (ns : List Int) : (ns.foldl (fun (σ : Int × Unit) n => if (Builtin.bitAnd n left == left) = true then (Builtin.bitAnd σ.1 n, ()) else (σ.1, ())) (15, ())).1 = meetL left ns := by
  have h : ∀ (ns : List Int) (a : Int), (ns.foldl (fun (σ : Int × Unit) n => if (Builtin.bitAnd n left == left) = true then (Builtin.bitAnd σ.1 n, ()) else (σ.1, ())) (a, ())).1 = ns.foldl (fun σ n => if (Builtin.bitAnd n left == left) = true then Builtin.bitAnd σ n else σ) a := by
    intro ns
    induction ns with
    | nil => intro a; rfl
    | cons n ns ih =>
      intro a
      rw [List.foldl_cons, List.foldl_cons]
      split
      · exact ih _
      · exact ih _
  exact h ns 15
set_option maxHeartbeats 2000000
theorem spec_meet (w : World) (left : Int) (t : Nat) (l : Addr) (ns : List Int) : Spec w 183 [.int left t, .ref l] 1 10 (fun h => IntsAt h l ns) (fun _ v _ => ∃ t', v = .int (meetL left ns) t') := by
  intro mean mg mb dp un fr gd s Q E tp hp hd hu hq
  obtain ⟨vs, hL, hI⟩ := hp
  have KX : (K w.params).In s.heap := tp.X
  have T := tp.T
  refine enterP (scope := fScope (stAt pw 19)) (params := fArgs (stAt pw 19)) (body := fBody (stAt pw 19)) tp (by omega) rfl rfl (by rfl) (by rfl) (locs (by rfl)) ?_ (by rfl) (by rfl) (by rfl) (by decide +kernel)
  intro h₁ tk F N
  conv in (fBody _) => whnf
  k_steps
  refine hq _ _ _ (Fr.keep (by assumption)) ⟨_, congrArg (fun x => Value.int x _) (meet_pair left ns)⟩
end Mine
end
section
open PySem PySem.W PyProof.Rows
namespace Mine
/-! the plain law: Ganter's exploration -/
def meetF (left : Int) (a : Int) (ns : List Int) : Int := ns.foldl (fun σ n => if (Builtin.bitAnd n left == left) = true then Builtin.bitAnd σ n else σ) a
theorem meetF_bit {left : Int} : ∀ (ns : List Int) (a : Int), Bits ns → Bit a → Bit (meetF left a ns)
  | [], _, _, h => h
  | n :: ns, a, hb, h => by
    unfold meetF
    rw [List.foldl_cons]
    refine meetF_bit ns _ (fun x hx => hb x (.tail _ hx)) ?_
    split
    · exact bit_and h (hb n (.head _))
    · exact h
theorem meetF_le {left x : Int} (hx : Bit x) : ∀ (ns : List Int) (a : Int), Bits ns → Bit a → (Le x (meetF left a ns) ↔ Le x a ∧ ∀ n ∈ ns, Le left n → Le x n)
  | [], _, _, _ => ⟨fun h => ⟨h, fun _ h => nomatch h⟩, fun h => h.1⟩
  | n :: ns, a, hb, h => by
    unfold meetF
    rw [List.foldl_cons]
    have hb' : Bits ns := fun x hx => hb x (.tail _ hx)
    have hn : Bit n := hb n (.head _)
    by_cases hc : (Builtin.bitAnd n left == left) = true
    · rw [if_pos hc]
      have ih := meetF_le (left := left) hx ns (Builtin.bitAnd a n) hb' (bit_and h hn)
      unfold meetF at ih
      rw [ih, le_and hx h hn]
      have hc' : Le left n := eq_of_beq hc
      constructor
      · rintro ⟨⟨h1, h2⟩, h3⟩
        refine ⟨h1, fun m hm hl => ?_⟩
        rcases List.mem_cons.mp hm with rfl | hm
        · exact h2
        · exact h3 m hm hl
      · rintro ⟨h1, h2⟩
        exact ⟨⟨h1, h2 n (.head _) hc'⟩, fun m hm hl => h2 m (.tail _ hm) hl⟩
    · rw [if_neg hc]
      have ih := meetF_le (left := left) hx ns a hb' h
      unfold meetF at ih
      rw [ih]
      have hc' : ¬ Le left n := fun e => hc (beq_iff_eq.mpr e)
      constructor
      · rintro ⟨h1, h3⟩
        refine ⟨h1, fun m hm hl => ?_⟩
        rcases List.mem_cons.mp hm with rfl | hm
        · exact absurd hl hc'
        · exact h3 m hm hl
      · rintro ⟨h1, h2⟩
        exact ⟨h1, fun m hm hl => h2 m (.tail _ hm) hl⟩
theorem meet_bit {left : Int} {ns : List Int} (hb : Bits ns) : Bit (meetL left ns) := meetF_bit ns 15 hb bit15
theorem meet_le {left x : Int} {ns : List Int} (hb : Bits ns) (hx : Bit x) : Le x (meetL left ns) ↔ ∀ n ∈ ns, Le left n → Le x n := by
  have := meetF_le (left := left) hx ns 15 hb bit15
  show Le x (meetF left 15 ns) ↔ _
  rw [this]
  exact ⟨fun h => h.2, fun h => ⟨le_top hx, h⟩⟩
theorem le_meet {left : Int} {ns : List Int} (hb : Bits ns) (hl : Bit left) : Le left (meetL left ns) := (meet_le hb hl).mpr fun _ _ h => h
theorem meet_in {left n : Int} {ns : List Int} (hb : Bits ns) (hn : n ∈ ns) (h : Le left n) : Le (meetL left ns) n := (meet_le hb (meet_bit hb)).mp (le_refl (meet_bit hb)) n hn h
theorem meet_mono {a b : Int} {ns : List Int} (hb : Bits ns) (ha : Bit a) (hb' : Bit b) (h : Le a b) : Le (meetL a ns) (meetL b ns) :=
  (meet_le hb (meet_bit hb)).mpr fun n hn hl => meet_in hb hn (le_trans ha hb' (hb n hn) h hl)
theorem meet_sub {a : Int} {ns S : List Int} (hb : Bits ns) (hs : ∀ x ∈ S, x ∈ ns) : Le (meetL a ns) (meetL a S) :=
  (meet_le (fun x hx => hb x (hs x hx)) (meet_bit hb)).mpr fun n hn hl => meet_in hb (hs n hn) hl
theorem meet_idem {a : Int} {ns : List Int} (hb : Bits ns) : meetL (meetL a ns) ns = meetL a ns := by
  refine le_anti (meet_bit hb) (meet_bit hb) ?_ (le_meet hb (meet_bit hb))
  exact (meet_le hb (meet_bit hb)).mpr fun n hn hl => meet_in hb hn (meet_in hb hn hl)
/-- the rules that a set of flags keeps -/
def keepsL (flags : Int) (R : List (Int × Int)) : Bool := R.all fun p => !(Builtin.bitAnd flags p.1 == p.1 && Builtin.bitAnd flags p.2 != p.2)
theorem keepsL_iff {x : Int} {R : List (Int × Int)} : keepsL x R = true ↔ ∀ p ∈ R, Le p.1 x → Le p.2 x := by
  unfold keepsL
  rw [List.all_eq_true]
  refine forall_congr' fun p => forall_congr' fun _ => ?_
  simp only [Bool.not_eq_true', Bool.and_eq_false_iff, beq_eq_false_iff_ne, bne_eq_false_iff_eq]
  constructor
  · rintro (h | h) hl
    · exact absurd hl h
    · exact h
  · intro h
    by_cases hl : Le p.1 x
    · exact .inr (h hl)
    · exact .inl hl
def brokenL (rule : Int × Int) (R : List (Int × Int)) : List Int := (R.filter fun p => !keepsL p.1 [rule]).map (·.1)
/-- what holds when the sets below n are done -/
structure Inv (n : Int) (R : List (Int × Int)) (S ns : List Int) : Prop where
  sub : ∀ x ∈ S, x ∈ ns
  nd : S.Nodup
  rl : ∀ p ∈ R, Bit p.1 ∧ p.1 < n ∧ p.2 = meetL p.1 ns
  cl : ∀ L, 0 ≤ L → L < n → keepsL L R = true → meetL L S = L
  nl : (R.map (·.1)).Nodup
  pw : ∀ p ∈ R, ∀ q ∈ R, p.1 ≠ q.1 → Le q.1 p.1 → Le q.2 p.1
/-- what holds between two questions -/
def Mid (n : Int) (R : List (Int × Int)) (S ns : List Int) (r : Int) : Prop :=
  r = meetL n S ∧ (Inv n R S ns ∨ (Inv (n + 1) R S ns ∧ keepsL n R = false))
theorem inv0 {ns : List Int} : Inv 0 [] [] ns := ⟨(fun _ h => nomatch h), List.nodup_nil, (fun _ h => nomatch h), (fun L h0 h1 => absurd h1 (by omega)), List.nodup_nil, (fun _ h => nomatch h)⟩
theorem Inv.bits {n : Int} {R : List (Int × Int)} {S ns : List Int} (h : Inv n R S ns) (hb : Bits ns) : Bits S := fun x hx => hb x (h.sub x hx)
theorem sub_len : ∀ {S ns : List Int}, S.Nodup → (∀ x ∈ S, x ∈ ns) → S.length ≤ ns.length
  | [], _, _, _ => Nat.zero_le _
  | x :: S, ns, hd, h => by
    have hx := h x (.head _)
    have hd' := List.nodup_cons.mp hd
    have h1 := sub_len (ns := ns.erase x) hd'.2 fun y hy => (List.mem_erase_of_ne (fun e => hd'.1 (by rw [← e]; exact hy))).mpr (h y (.tail _ hy))
    have h2 := List.length_pos_of_mem hx
    rw [List.length_erase_of_mem hx] at h1
    rw [List.length_cons]
    omega
theorem Inv.len {n : Int} {R : List (Int × Int)} {S ns : List Int} (h : Inv n R S ns) : S.length ≤ ns.length := sub_len h.nd h.sub
theorem Inv.mid {n : Int} {R : List (Int × Int)} {S ns : List Int} (h : Inv n R S ns) : Mid n R S ns (meetL n S) := ⟨rfl, .inl h⟩
theorem Mid.sub {n r : Int} {R : List (Int × Int)} {S ns : List Int} (h : Mid n R S ns r) : (∀ x ∈ S, x ∈ ns) ∧ S.Nodup := by
  rcases h.2 with h | h
  · exact ⟨h.sub, h.nd⟩
  · exact ⟨h.1.sub, h.1.nd⟩
theorem Mid.go {n r : Int} {R : List (Int × Int)} {S ns : List Int} (h : Mid n R S ns r) (hk : keepsL n R = true) : Inv n R S ns := by
  rcases h.2 with h | h
  · exact h
  · rw [h.2] at hk; exact nomatch hk
/-- out of the inner loop -/
theorem Mid.done {n r : Int} {R : List (Int × Int)} {S ns : List Int} (h : Mid n R S ns r) (he : r = n ∨ keepsL n R = false) : Inv (n + 1) R S ns := by
  rcases h with ⟨hr, h | h⟩
  · refine ⟨h.sub, h.nd, fun p hp => ⟨(h.rl p hp).1, by have := (h.rl p hp).2.1; omega, (h.rl p hp).2.2⟩, fun L h0 h1 hk => ?_, h.nl, h.pw⟩
    by_cases e : L = n
    · subst e
      rcases he with he | he
      · rw [← hr]; exact he
      · rw [he] at hk; exact nomatch hk
    · exact h.cl L h0 (by omega) hk
  · exact h.1
/-- a mail is shown -/
theorem Mid.show_ {n r M : Int} {R : List (Int × Int)} {S ns : List Int} (hb : Bits ns) (hn : Bit n) (h : Mid n R S ns r) (hk : keepsL n R = true) (hM : M ∈ ns) (h1 : Le n M) (h2 : ¬ Le (r - n) M) :
    Mid n R (S ++ [M]) ns (meetL n (S ++ [M])) ∧ (0 ≤ meetL n (S ++ [M]) ∧ meetL n (S ++ [M]) < r) ∧ S.length < ns.length := by
  have i := h.go hk
  have hr := h.1
  have hbS := i.bits hb
  have hrb : Bit r := by rw [hr]; exact meet_bit hbS
  have hnr : Le n r := by rw [hr]; exact le_meet hbS hn
  have hrM : ¬ Le r M := fun e => h2 (((le_sub hn hrb (hb M hM) hnr).2).mp e).2
  have hnew : M ∉ S := fun hS => hrM (by rw [hr]; exact meet_in hbS hS h1)
  have hsub : ∀ x ∈ S ++ [M], x ∈ ns := fun x hx => by
    rcases List.mem_append.mp hx with hx | hx
    · exact i.sub x hx
    · rw [List.mem_singleton.mp hx]; exact hM
  have hnd : (S ++ [M]).Nodup := List.nodup_append.mpr ⟨i.nd, List.nodup_cons.mpr ⟨(fun h => nomatch h), List.nodup_nil⟩, fun a ha b hb e => hnew (by rw [← List.mem_singleton.mp hb, ← e]; exact ha)⟩
  have hbS' : Bits (S ++ [M]) := fun x hx => hb x (hsub x hx)
  refine ⟨⟨rfl, .inl ⟨hsub, hnd, i.rl, fun L h0 h1 hk => ?_, i.nl, i.pw⟩⟩, ?_, ?_⟩
  · have e := i.cl L h0 h1 hk
    have hLb : Bit L := by rw [← e]; exact meet_bit hbS
    refine le_anti (meet_bit hbS') hLb ?_ (le_meet hbS' hLb)
    have := meet_sub (a := L) hbS' (S := S) (fun x hx => List.mem_append_left _ hx)
    rw [e] at this
    exact this
  · have hb2 : Bit (meetL n (S ++ [M])) := meet_bit hbS'
    have hl : Le (meetL n (S ++ [M])) r := by rw [hr]; exact meet_sub hbS' (fun x hx => List.mem_append_left _ hx)
    refine ⟨hb2.1, ?_⟩
    have hle := le_int hb2 hrb hl
    have hne : meetL n (S ++ [M]) ≠ r := fun e => hrM (by rw [← e]; exact meet_in hbS' (List.mem_append_right _ (.head _)) h1)
    omega
  · have := sub_len hnd hsub
    rw [List.length_append, List.length_singleton] at this
    omega
/-- a rule is granted -/
theorem Mid.rule_ {n r : Int} {R : List (Int × Int)} {S ns : List Int} (hb : Bits ns) (hn : Bit n) (h : Mid n R S ns r) (hk : keepsL n R = true) (hne : r ≠ n) (ha : ∀ M ∈ ns, Le n M → Le (r - n) M) :
    Mid n (R ++ [(n, r)]) S ns r ∧ keepsL n (R ++ [(n, r)]) = false := by
  have i := h.go hk
  have hr := h.1
  have hbS := i.bits hb
  have hrb : Bit r := by rw [hr]; exact meet_bit hbS
  have hnr : Le n r := by rw [hr]; exact le_meet hbS hn
  have e : r = meetL n ns := by
    refine le_anti hrb (meet_bit hb) ?_ ?_
    · exact (meet_le hb hrb).mpr fun M hM hl => ((le_sub hn hrb (hb M hM) hnr).2).mpr ⟨hl, ha M hM hl⟩
    · rw [hr]; exact meet_sub hb i.sub
  have hk' : keepsL n (R ++ [(n, r)]) = false := by
    rw [Bool.eq_false_iff]
    intro hk'
    have := keepsL_iff.mp hk' (n, r) (List.mem_append_right _ (.head _)) (le_refl hn)
    exact hne (le_anti hrb hn this hnr)
  refine ⟨⟨hr, .inr ⟨⟨i.sub, i.nd, fun p hp => ?_, fun L h0 h1 hkL => ?_, ?_, ?_⟩, hk'⟩⟩, hk'⟩
  · rcases List.mem_append.mp hp with hp | hp
    · exact ⟨(i.rl p hp).1, by have := (i.rl p hp).2.1; omega, (i.rl p hp).2.2⟩
    · rw [List.mem_singleton.mp hp]; exact ⟨hn, by show n < n + 1; omega, e⟩
  · by_cases eL : L = n
    · subst eL; rw [hk'] at hkL; exact nomatch hkL
    · exact i.cl L h0 (by omega) (keepsL_iff.mpr fun p hp => keepsL_iff.mp hkL p (List.mem_append_left _ hp))
  · rw [List.map_append]
    refine List.nodup_append.mpr ⟨i.nl, List.nodup_cons.mpr ⟨(fun h => nomatch h), List.nodup_nil⟩, fun a ha b hb' e' => ?_⟩
    obtain ⟨p, hp, rfl⟩ := List.mem_map.mp ha
    have h3 := (i.rl p hp).2.1
    have h4 : b = n := List.mem_singleton.mp hb'
    omega
  · intro p hp q hq hpq hl
    rcases List.mem_append.mp hp with hp | hp <;> rcases List.mem_append.mp hq with hq | hq
    · exact i.pw p hp q hq hpq hl
    · rw [List.mem_singleton.mp hq] at hl ⊢
      have h3 := (i.rl p hp).2.1
      have h4 := le_int hn (i.rl p hp).1 hl
      omega
    · rw [List.mem_singleton.mp hp] at hl ⊢
      exact keepsL_iff.mp hk q hq hl
    · rw [List.mem_singleton.mp hp, List.mem_singleton.mp hq] at hpq
      exact absurd rfl hpq
/-! the end -/
section
variable {R : List (Int × Int)} {S ns : List Int} (hb : Bits ns) (i : Inv 16 R S ns)
include hb i
theorem keeps_iff {x : Int} (hx : Bit x) : keepsL x R = true ↔ meetL x ns = x := by
  have hbS := i.bits hb
  constructor
  · intro h
    have e := i.cl x hx.1 hx.2 h
    refine le_anti (meet_bit hb) hx ?_ (le_meet hb hx)
    have := meet_sub (a := x) hb i.sub
    rw [e] at this
    exact this
  · intro e
    refine keepsL_iff.mpr fun p hp hl => ?_
    have := meet_mono hb (i.rl p hp).1 hx hl
    rw [e] at this
    rw [(i.rl p hp).2.2]
    exact this
theorem shown_meet {L : Int} (hL : Bit L) : meetL L S = meetL L ns := by
  have hbS := i.bits hb
  have hC := meet_bit (left := L) hb
  have h1 := (keeps_iff hb i hC).mpr (meet_idem hb)
  have h2 := i.cl _ hC.1 hC.2 h1
  refine le_anti (meet_bit hbS) hC ?_ (meet_sub hb i.sub)
  have := meet_mono hbS hL hC (le_meet hb hL)
  rw [h2] at this
  exact this
omit hb in
theorem end_right : R.map (·.2) = R.map fun p => meetL p.1 ns := List.map_congr_left fun p hp => (i.rl p hp).2.2
theorem broken_one {a : Int} (ha : Bit a) : (brokenL (a, meetL a ns) R).length ≤ 1 := by
  have key : ∀ p ∈ R, ∀ q ∈ R, keepsL p.1 [(a, meetL a ns)] = false → keepsL q.1 [(a, meetL a ns)] = false → p.1 = q.1 := by
    intro p hp q hq kp kq
    have hA := meet_bit (left := a) hb
    have br : ∀ x : Int, keepsL x [(a, meetL a ns)] = false → Le a x ∧ ¬ Le (meetL a ns) x := by
      intro x hx
      have : ¬ keepsL x [(a, meetL a ns)] = true := by rw [hx]; exact fun h => nomatch h
      rw [keepsL_iff] at this
      refine Classical.byContradiction fun hc => this fun r hr hl => ?_
      rw [List.mem_singleton.mp hr] at hl ⊢
      exact Classical.byContradiction fun h => hc ⟨hl, h⟩
    obtain ⟨p1, p2⟩ := br _ kp
    obtain ⟨q1, q2⟩ := br _ kq
    have bp := (i.rl p hp).1
    have bq := (i.rl q hq).1
    refine Classical.byContradiction fun hne => ?_
    have up : ∀ r ∈ R, Le a r.1 → Le (meetL a ns) r.2 := fun r hr h => by rw [(i.rl r hr).2.2]; exact meet_mono hb ha (i.rl r hr).1 h
    have hm := bit_and bp bq
    have b2 : ∀ r ∈ R, Bit r.2 := fun r hr => by rw [(i.rl r hr).2.2]; exact meet_bit hb
    have hlm := (le_and hm bp bq).mp (le_refl hm)
    by_cases e1 : Le p.1 q.1
    · exact q2 (le_trans hA (b2 p hp) bq (up p hp p1) (i.pw q hq p hp (fun e => hne e.symm) e1))
    by_cases e2 : Le q.1 p.1
    · exact p2 (le_trans hA (b2 q hq) bp (up q hq q1) (i.pw p hp q hq hne e2))
    have hk : keepsL (Builtin.bitAnd p.1 q.1) R = true := by
      refine keepsL_iff.mpr fun r hr hl => ?_
      have br := (i.rl r hr).1
      have l1 := le_trans br hm bp hl hlm.1
      have l2 := le_trans br hm bq hl hlm.2
      refine (le_and (b2 r hr) bp bq).mpr ⟨i.pw p hp r hr (fun e => e1 (by rw [e]; exact l2)) l1, i.pw q hq r hr (fun e => e2 (by rw [e]; exact l1)) l2⟩
    have e := (keeps_iff hb i hm).mp hk
    have := meet_mono hb ha hm ((le_and ha bp bq).mpr ⟨p1, q1⟩)
    rw [e] at this
    exact p2 (le_trans hA hm bp this hlm.1)
  unfold brokenL
  have hnd : ((R.filter fun p => !keepsL p.1 [(a, meetL a ns)]).map (·.1)).Nodup := List.Nodup.sublist (List.Sublist.map _ List.filter_sublist) i.nl
  have hall : ∀ x ∈ (R.filter fun p => !keepsL p.1 [(a, meetL a ns)]).map (·.1), ∀ y ∈ (R.filter fun p => !keepsL p.1 [(a, meetL a ns)]).map (·.1), x = y := by
    intro x hx y hy
    obtain ⟨p, hp, rfl⟩ := List.mem_map.mp hx
    obtain ⟨q, hq, rfl⟩ := List.mem_map.mp hy
    obtain ⟨hp, kp⟩ := List.mem_filter.mp hp
    obtain ⟨hq, kq⟩ := List.mem_filter.mp hq
    exact key p hp q hq (by simpa using kp) (by simpa using kq)
  revert hnd hall
  generalize (R.filter fun p => !keepsL p.1 [(a, meetL a ns)]).map (·.1) = l
  intro hnd hall
  match l, hnd, hall with
  | [], _, _ => exact Nat.zero_le _
  | [_], _, _ => exact Nat.le_refl _
  | x :: y :: l, hnd, hall => exact absurd (hall x (.head _) y (.tail _ (.head _))) (fun e => (List.nodup_cons.mp hnd).1 (by rw [e]; exact .head _))
end
/-! the meets -/
theorem mem_meetIn {m : Int} {f : List Int} {o y : Int} : y ∈ meetIn m f o ↔ y ∈ f ∨ y = Builtin.bitAnd o m := by
  unfold meetIn
  split
  · rename_i h
    exact ⟨.inl, fun h' => h'.elim id fun e => by rw [e]; exact h⟩
  · rw [List.mem_append, List.mem_singleton]
theorem mem_fold {m y : Int} : ∀ (P f : List Int), y ∈ P.foldl (meetIn m) f ↔ y ∈ f ∨ ∃ o ∈ P, y = Builtin.bitAnd o m
  | [], f => ⟨.inl, fun h => h.elim id fun ⟨_, h, _⟩ => nomatch h⟩
  | n :: P, f => by
    rw [List.foldl_cons, mem_fold P, mem_meetIn]
    constructor
    · rintro ((h | h) | ⟨o, ho, h⟩)
      · exact .inl h
      · exact .inr ⟨n, .head _, h⟩
      · exact .inr ⟨o, .tail _ ho, h⟩
    · rintro (h | ⟨o, ho, h⟩)
      · exact .inl (.inl h)
      · rcases List.mem_cons.mp ho with rfl | ho
        · exact .inl (.inr h)
        · exact .inr ⟨o, ho, h⟩
theorem meetL_snoc (x m : Int) (ns : List Int) : meetL x (ns ++ [m]) = if (Builtin.bitAnd m x == x) = true then Builtin.bitAnd (meetL x ns) m else meetL x ns := by
  unfold meetL
  rw [List.foldl_append]
  rfl
theorem snoc_rec {P : List Int → Prop} (h0 : P []) (h1 : ∀ l x, P l → P (l ++ [x])) (l : List Int) : P l := by
  have h : ∀ l : List Int, P l.reverse := by
    intro l
    induction l with
    | nil => exact h0
    | cons x l ih => rw [List.reverse_cons]; exact h1 _ _ ih
  have := h l.reverse
  rwa [List.reverse_reverse] at this
theorem mem_meets (ns : List Int) : Bits ns → ∀ x, x ∈ meetsL ns ↔ Bit x ∧ meetL x ns = x := by
  refine snoc_rec (P := fun ns => Bits ns → ∀ x, x ∈ meetsL ns ↔ Bit x ∧ meetL x ns = x) ?_ ?_ ns
  · intro _ x
    show x ∈ [15] ↔ _
    rw [List.mem_singleton]
    exact ⟨fun e => by rw [e]; exact ⟨bit15, rfl⟩, fun ⟨_, e⟩ => e.symm⟩
  · intro ns m ih hb x
    have hb' : Bits ns := fun x hx => hb x (List.mem_append_left _ hx)
    have hm : Bit m := hb m (List.mem_append_right _ (.head _))
    have ih := ih hb'
    have e : meetsL (ns ++ [m]) = (meetsL ns).foldl (meetIn m) (meetsL ns) := by
      unfold meetsL
      rw [List.foldl_append]
      rfl
    rw [e, mem_fold]
    constructor
    · rintro (h | ⟨o, ho, rfl⟩)
      · obtain ⟨hx, h⟩ := (ih x).mp h
        refine ⟨hx, ?_⟩
        rw [meetL_snoc]
        split
        · rename_i hc
          rw [h]
          have hc' : Le x m := eq_of_beq hc
          exact le_anti (bit_and hx hm) hx (((le_and (bit_and hx hm) hx hm).mp (le_refl (bit_and hx hm))).1) ((le_and hx hx hm).mpr ⟨le_refl hx, hc'⟩)
        · exact h
      · obtain ⟨ho, h⟩ := (ih o).mp ho
        have hx := bit_and ho hm
        have hl := (le_and hx ho hm).mp (le_refl hx)
        refine ⟨hx, le_anti (meet_bit hb) hx ?_ (le_meet hb hx)⟩
        rw [meetL_snoc, if_pos (beq_iff_eq.mpr hl.2)]
        have h3 := meet_bit (left := Builtin.bitAnd o m) hb'
        have hb3 := bit_and h3 hm
        have h4 := (le_and hb3 h3 hm).mp (le_refl hb3)
        refine (le_and hb3 ho hm).mpr ⟨?_, h4.2⟩
        have h5 := meet_mono hb' hx ho hl.1
        rw [h] at h5
        exact le_trans hb3 h3 ho h4.1 h5
    · rintro ⟨hx, h⟩
      rw [meetL_snoc] at h
      split at h
      · exact .inr ⟨meetL x ns, (ih _).mpr ⟨meet_bit hb', meet_idem hb'⟩, h.symm⟩
      · exact .inl ((ih x).mpr ⟨hx, h⟩)
theorem sorted_same {q₁ q₂ : List Int} (h₁ : q₁.Nodup) (h₂ : q₂.Nodup) (s₁ : q₁.Pairwise (· ≤ ·)) (s₂ : q₂.Pairwise (· ≤ ·)) (h : ∀ x, x ∈ q₁ ↔ x ∈ q₂) : q₁ = q₂ :=
  List.Perm.eq_of_pairwise (le := (· ≤ ·)) (fun _ _ _ _ h1 h2 => Int.le_antisymm h1 h2) s₁ s₂ ((List.perm_ext_iff_of_nodup h₁ h₂).mpr h)
end Mine
end
section
open PySem PySem.W PyProof.Rows
set_option maxRecDepth 100000
namespace Mine
theorem filled_wx : PySem.Challenge.rw_ku0043_01 = PySem.Challenge.rw_ku0043_01 ∧ K = K := by
  k_fill
  exact ⟨rfl, rfl⟩
set_option maxHeartbeats 4000000
set_option pp.maxSteps 20000
set_option pp.deepTerms false
set_option pp.deepTerms.threshold 6
/-- the granted rules in the ledger -/
inductive TupsIn (own : List (Addr × Obj)) : List Addr → List (Int × Int) → Prop
  | nil : TupsIn own [] []
  | cons {t : Addr} {ts : List Addr} {p : Int × Int} {R : List (Int × Int)} (ta tb : Tok) (n : Nat) : (t, ({ cls := .type "tuple", data := .seq #[.int p.1 ta, .int p.2 tb] n } : Obj)) ∈ own → TupsIn own ts R → TupsIn own (t :: ts) (p :: R)
theorem TupsIn.mono {own own' : List (Addr × Obj)} (h : ∀ p ∈ own, p ∈ own') : ∀ {ts : List Addr} {R : List (Int × Int)}, TupsIn own ts R → TupsIn own' ts R
  | _, _, .nil => .nil
  | _, _, .cons ta tb n a r => .cons ta tb n (h _ a) (r.mono h)
theorem TupsIn.snoc {own : List (Addr × Obj)} {t : Addr} {p : Int × Int} {ta tb : Tok} {n : Nat} (h : (t, ({ cls := .type "tuple", data := .seq #[.int p.1 ta, .int p.2 tb] n } : Obj)) ∈ own) : ∀ {ts : List Addr} {R : List (Int × Int)}, TupsIn own ts R → TupsIn own (ts ++ [t]) (R ++ [p])
  | _, _, .nil => .cons ta tb n h .nil
  | _, _, .cons ta tb n a r => .cons ta tb n a (r.snoc h)
theorem TupsIn.are {h₀ h : Heap} {L : Addr} {own : List (Addr × Obj)} (N : News h₀ L h own) : ∀ {ts : List Addr} {R : List (Int × Int)}, TupsIn own ts R → TupsAre h ts R
  | _, _, .nil => .nil
  | _, _, .cons ta tb n a r => .cons ta tb ⟨_, N.get a, rfl, n, rfl⟩ (r.are N)
theorem TupsIn.length {own : List (Addr × Obj)} : ∀ {ts : List Addr} {R : List (Int × Int)}, TupsIn own ts R → ts.length = R.length
  | _, _, .nil => rfl
  | _, _, .cons _ _ _ _ r => by rw [List.length_cons, List.length_cons, r.length]
theorem brk_keeps (x : Int) (R : List (Int × Int)) : (R.filter (brk x)).isEmpty = keepsL x R := by
  unfold keepsL
  induction R with
  | nil => rfl
  | cons p R ih =>
    rw [List.filter_cons, List.all_cons, ← ih]
    unfold brk
    cases h : (Builtin.bitAnd x p.1 == p.1 && Builtin.bitAnd x p.2 != p.2) <;> simp
theorem Inv.rlen {n : Int} {R : List (Int × Int)} {S ns : List Int} (i : Inv n R S ns) : R.length ≤ 16 := by
  have h : (R.map (·.1)).length ≤ 16 := bits_len (fun x hx => by obtain ⟨p, hp, rfl⟩ := List.mem_map.mp hx; exact (i.rl p hp).1) i.nl
  rwa [List.length_map] at h
theorem Mid.len {n r : Int} {R : List (Int × Int)} {S ns : List Int} (h : Mid n R S ns r) (_hn : Bit n) : R.length ≤ 16 := by
  rcases h.2 with h | h
  · exact h.rlen
  · exact h.1.rlen
/-- the state between two questions -/
structure XS where
  R : List (Int × Int)
  S : List Int
  ts : List Addr
  us : List Value
  n1 : Nat
  n2 : Nat
  wc : Obj
  add : List (Addr × Obj)
  right : Int
  tr : Tok
def by8v (l : List Nat) : Value := .bytes (by8 l) 0
def ledX (sh r nm A1 A2 : Addr) (onm oA2 : Obj) (rest : List (Addr × Obj)) (c : XS) : List (Addr × Obj) := (sh, W.listOf (List.toArray c.us) c.n2) :: (r, W.listOf (List.toArray (c.ts.map Value.ref)) c.n1) :: (A1, c.wc) :: (nm, onm) :: (A2, oA2) :: (c.add ++ rest)
def psX (sh r l : Addr) (k a c : Int) (tk ta tc : Tok) : List (Str × Value) := [("left", .int k tk), ("shown", .ref sh), ("rules", .ref r), ("look", .int c tc), ("first", .int a ta), ("mails", .ref l)]
/-- what is known between two questions -/
structure XF (sh r nm A1 A2 : Addr) (ns : List Int) (k : Int) (rest bs : List (Addr × Obj)) (c : XS) : Prop where
  x_ints : IntsAre c.us c.S
  x_tups : TupsIn (c.add ++ bs) c.ts c.R
  x_off : OwnOff (c.add ++ rest) [sh, r, A1, nm, A2]
  x_cell : ∃ ov, c.wc.data = .cell ov
  x_new : ∀ q ∈ c.add, ∀ p ∈ rest, p.1 ≠ q.1
  x_mid : Mid k c.R c.S ns c.right
def muX (k : Int) (c : XS) : Nat := if keepsL k c.R = true then c.right.toNat + 1 else 0
def forBody : Stmt → List Stmt
  | .For _ _ b _ _ => b
  | _ => []
def exWhile : Stmt := (forBody ((fBody (stAt pw 23)).getD 3 (.Pass default))).getD 1 (.Pass default)
def whTest : Stmt → PySem.Expr
  | .While t _ _ _ => t
  | _ => default
def whBody : Stmt → List Stmt
  | .While _ b _ _ => b
  | _ => []
def whPos : Stmt → Pos
  | .While _ _ _ p => p
  | _ => default
theorem exWhile_is : exWhile = .While (whTest exWhile) (whBody exWhile) [] (whPos exWhile) := by rfl
def storedX : List Str := ["right", "typed", "told", "again"]
theorem eqAt_str {A : Around} {s : Shared} (x : Str) (t u : Tok) : PySem.SeqAt.EqAt A s (.str x t) (.str x u) true := by
  have := PySem.SeqAt.EqAt.str_str (A := A) (s := s) x t x u
  rwa [beq_self_eq_true] at this
theorem News.drop {h₀ h : Heap} {L : Addr} {p : Addr × Obj} {news : List (Addr × Obj)} (N : News h₀ L h (p :: news)) : News h₀ L h news := fun q hq => N q (.tail _ hq)
theorem news_fresh {h₀ h h' : Heap} {L a : Addr} {m : Str → Option Value} {o : Obj} {news : List (Addr × Obj)} (N : News h₀ L h' news) (F : Fr h₀ L h m) (x : Fresh h h' a o) : News h₀ L h' ((a, o) :: news) := by
  intro p hp
  rcases List.mem_cons.mp hp with rfl | hp
  · refine ⟨x.2, ?_, ?_⟩
    · rintro rfl
      obtain ⟨oL, _, _, e, _⟩ := F.ns
      rw [x.1] at e; cases e
    · cases e : h₀.get? a with
      | none => rfl
      | some o' => have := F.keep _ _ e; rw [x.1] at this; cases this
  · exact N p hp
theorem len_is {prog : Program} {w : World} {A : Around} {E : Value → Shared → Prop} {s : Shared} {l : Addr} {items : Array Value} {n : Int} {Q : Value → Shared → Prop} (hl : s.heap.IsList l items) (e : (items.size : Int) = n) (h0 : n < 1000) (h : ∀ t k, Q (.int n t) { s with toks := k }) :
    wpAny (model prog w) A (call (.builtin "len") [.ref l]) Q E s := by
  subst e
  exact len_list hl (by omega) (h _ _)
/-- the last three statements of a turn -/
def TailEnd (sh r nm A1 A2 : Addr) (onm oA2 : Obj) (ns : List Int) (k : Int) (rest bs : List (Addr × Obj)) (h₀ : Heap) (s : Shared) (m : Str → Option Value) (mu : Nat) (s' : Shared) : Prop :=
  ∃ (c' : XS) (m' : Str → Option Value) (h' : Heap) (tk' : Nat), s' = { s with heap := h', toks := tk' } ∧ Fr h₀ h₀.objs.size h' m' ∧ News h₀ h₀.objs.size h' (ledX sh r nm A1 A2 onm oA2 rest c') ∧ (∀ z, storedX.contains z = false → m' z = m z) ∧ m' "right" = some (.int c'.right c'.tr) ∧ XF sh r nm A1 A2 ns k rest bs c' ∧ muX k c' < mu
theorem hit_le {a k right : Int} {ns : List Int} {j : Nat} : hit a ns k right j = true ↔ Le k (mailAt a ns j) ∧ ¬ Le right (mailAt a ns j) := by
  unfold hit
  rw [Bool.and_eq_true, beq_iff_eq, bne_iff_ne]
theorem mail_mem {a : Int} {ns : List Int} (hz : ns.length = 5) (j : Nat) : mailAt a ns j ∈ ns := by
  unfold mailAt
  have h1 := Int.fmod_nonneg_of_pos (a + j) (b := 5) (by decide)
  have h2 := Int.fmod_lt_of_pos (a + j) (b := 5) (by decide)
  have hlt : ((a + (j : Int)).fmod 5).toNat < ns.length := by omega
  have e : ns.getD ((a + (j : Int)).fmod 5).toNat 0 = ns[((a + (j : Int)).fmod 5).toNat] := by simp [List.getD, hlt]
  rw [e]
  exact List.getElem_mem hlt
theorem mail_all {a : Int} {ns : List Int} (ha : 0 ≤ a ∧ a < 5) (hz : ns.length = 5) {M : Int} (hM : M ∈ ns) : ∃ j < 5, mailAt a ns j = M := by
  obtain ⟨i, hi, rfl⟩ := List.mem_iff_getElem.mp hM
  refine ⟨(((i : Int) - a).fmod 5).toNat, ?_, ?_⟩
  · have h1 := Int.fmod_nonneg_of_pos ((i : Int) - a) (b := 5) (by decide)
    have h2 := Int.fmod_lt_of_pos ((i : Int) - a) (b := 5) (by decide)
    omega
  · have h1 := Int.fmod_nonneg_of_pos ((i : Int) - a) (b := 5) (by decide)
    have h2 := Int.fmod_lt_of_pos ((i : Int) - a) (b := 5) (by decide)
    have e : (a + (((((i : Int) - a).fmod 5).toNat : Nat) : Int)).fmod 5 = (i : Int) := by
      rw [Int.toNat_of_nonneg h1]
      rw [hz] at hi
      rcases (by omega : a = 0 ∨ a = 1 ∨ a = 2 ∨ a = 3 ∨ a = 4) with rfl | rfl | rfl | rfl | rfl <;> rcases (by omega : i = 0 ∨ i = 1 ∨ i = 2 ∨ i = 3 ∨ i = 4) with rfl | rfl | rfl | rfl | rfl <;> rfl
    unfold mailAt
    rw [e, Int.toNat_natCast]
    simp [List.getD, hi]
theorem fresh_ne {h₀ h h' : Heap} {L a : Addr} {o : Obj} {news : List (Addr × Obj)} (N : News h₀ L h news) (x : Fresh h h' a o) : ∀ p ∈ news, p.1 ≠ a := by
  rintro p hp rfl
  have := N.get hp
  rw [x.1] at this
  cases this
theorem allLt_mem {d : Nat} : ∀ {l : List (Addr × Obj)}, AllLt d l → ∀ p ∈ l, @LT.lt Nat _ p.1 d
  | [], _, _, hp => nomatch hp
  | _ :: _, h, p, hp => by
    rcases List.mem_cons.mp hp with rfl | hp
    · exact h.1
    · exact allLt_mem h.2 p hp
theorem append_led {prog : Program} {w : World} {A : Around} {E : Value → Shared → Prop} {s : Shared} {h₀ : Heap} {L D : Addr} {m : Str → Option Value} {vs : List Value} {n : Nat} {x : Value} {pre post : List (Addr × Obj)} {Q : Value → Shared → Prop} (F : Fr h₀ L s.heap m) (N : News h₀ L s.heap (pre ++ (D, W.listOf vs.toArray n) :: post))
    (h1 : ∀ p ∈ pre, p.1 ≠ D) (h2 : ∀ p ∈ post, p.1 ≠ D) (hz : vs.length ≤ 1000) (h : ∀ h', Fr h₀ L h' m → News h₀ L h' (pre ++ (D, W.listOf (vs ++ [x]).toArray (n + 1)) :: post) → Q .none { s with heap := h' }) :
    wpAny (model prog w) A (call (.builtin "list.append") [.ref D, x]) Q E s := by
  have z := N (D, W.listOf vs.toArray n) (List.mem_append_right _ (.head _))
  refine append_at (hsz := by rw [List.size_toArray]; exact Nat.le_trans hz (by decide)) z.1 fun h' hs hD => ?_
  refine h h' (F.change hs z.2.1 z.2.2) fun p hp => ?_
  rcases List.mem_append.mp hp with hp | hp
  · exact ⟨hs.extBut _ _ (h1 p hp) (N p (List.mem_append_left _ hp)).1, (N p (List.mem_append_left _ hp)).2⟩
  · rcases List.mem_cons.mp hp with rfl | hp
    · refine ⟨hD.trans ?_, z.2⟩
      rw [List.push_toArray]
    · exact ⟨hs.extBut _ _ (h2 p hp) (N p (List.mem_append_right _ (.tail _ hp))).1, (N p (List.mem_append_right _ (.tail _ hp))).2⟩
theorem eq_some {prog : Program} {w : World} {A : Around} {E : Value → Shared → Prop} {s : Shared} {l b : Addr} {vs : List Value} {x : Array UInt8} {L : List (Array UInt8)} {Q : Value → Shared → Prop} (hl : s.heap.IsTuple l vs.toArray) (hb : s.heap.IsTuple b #[]) (hv : BytsAre vs (x :: L)) (hu : A.units < cLine)
    (h : Q (.bool false) s) : wpAny (model prog w) A (compareOp .Eq (.ref l) (.ref b)) Q E s := eq_none hl hb hv hu h
theorem fwB_len (M : Int) : (fwB M).length ≤ 4 := by
  unfold fwB
  rw [List.length_map]
  exact Nat.le_trans (List.length_filter_le _ _) (by decide)
theorem add_words {prog : Program} {w : World} {A : Around} {E : Value → Shared → Prop} {s : Shared} {h₀ : Heap} {L t b : Addr} {m : Str → Option Value} {news : List (Addr × Obj)} {x : Array UInt8} {tk : Tok} {ys : List Value} {W : List (Array UInt8)} {n n' : Nat} {Q : Value → Shared → Prop} (F : Fr h₀ L s.heap m) (N : News h₀ L s.heap news)
    (ht : (t, ({ cls := .type "tuple", data := .seq #[.bytes x tk] n } : Obj)) ∈ news) (hb : (b, ({ cls := .type "tuple", data := .seq ys.toArray n' } : Obj)) ∈ news) (hy : BytsAre ys W) (hz : W.length ≤ 16)
    (h : ∀ D h' zs, Fr h₀ L h' m → News h₀ L h' news → h'.IsTuple D (List.toArray zs) → BytsAre zs (x :: W) → Q (.ref D) { s with heap := h' }) : wpAny (model prog w) A (binaryOp .Add (.ref t) (.ref b)) Q E s := by
  by_cases e : ys = []
  · subst e
    cases hy
    exact kde_addT1 F N ⟨_, N.get ht, rfl, _, rfl⟩ ⟨_, N.get hb, rfl, _, rfl⟩ (by simp) rfl (by simp) (h t s.heap [.bytes x tk] F N ⟨_, N.get ht, rfl, _, rfl⟩ (.cons _ _ .nil))
  · refine kde_addT (zs := .bytes x tk :: ys) F N ⟨_, N.get ht, rfl, _, rfl⟩ ⟨_, N.get hb, rfl, _, rfl⟩ (by simp) (by simpa using e) (by simp [hy.length]; omega) (by simp) fun D h' F' N' _ => ?_
    exact h D h' _ F' (News.drop N') ⟨_, N'.get (.head _), rfl, _, rfl⟩ (.cons _ _ hy)
theorem tail_rule {h₀ h3 : Heap} {s : Shared} {tk3 : Nat} {sh r nm A1 A2 D : Addr} {onm oA2 wc' : Obj} {add rest bs : List (Addr × Obj)} {us : List Value} {ts : List Addr} {n1 n2 n3 : Nat} {R : List (Int × Int)} {S ns : List Int} {k right : Int} {tk tr : Tok} {m₁ : Str → Option Value}
    (F3 : Fr h₀ h₀.objs.size h3 m₁) (N3 : News h₀ h₀.objs.size h3 ((D, { cls := .type "tuple", data := .seq #[.int k tk, .int right tr] n3 }) :: (sh, W.listOf us.toArray n2) :: (r, W.listOf (ts.map Value.ref ++ [Value.ref D]).toArray n1) :: (A1, wc') :: (nm, onm) :: (A2, oA2) :: (add ++ rest)))
    (hr : m₁ "right" = some (.int right tr)) (xi : IntsAre us S) (xt : TupsIn (add ++ bs) ts R) (xo : OwnOff (add ++ rest) [sh, r, A1, nm, A2]) (xc : ∃ ov, wc'.data = .cell ov) (xn : ∀ q ∈ add, ∀ p ∈ rest, p.1 ≠ q.1)
    (xm : Mid k (R ++ [(k, right)]) S ns right) (hkk : keepsL k (R ++ [(k, right)]) = false) (hb : @LT.lt Nat _ sh D ∧ @LT.lt Nat _ r D ∧ @LT.lt Nat _ A1 D ∧ @LT.lt Nat _ nm D ∧ @LT.lt Nat _ A2 D) (b7 : ∀ p ∈ add ++ rest, @LT.lt Nat _ p.1 D) :
    TailEnd sh r nm A1 A2 onm oA2 ns k rest bs h₀ s m₁ (right.toNat + 1) { s with heap := h3, toks := tk3 } := by
  refine ⟨⟨R ++ [(k, right)], S, ts ++ [D], us, n1, n2, wc', (D, { cls := .type "tuple", data := .seq #[.int k tk, .int right tr] n3 }) :: add, right, tr⟩, m₁, h3, tk3, rfl, F3, fun p hp => ?_, fun _ _ => rfl, hr, ⟨xi, ?_, ?_, xc, ?_, xm⟩, ?_⟩
  · refine N3 p ?_
    simp only [ledX, List.map_append, List.map_cons, List.map_nil, List.cons_append, List.mem_cons] at hp ⊢
    rcases hp with hp | hp | hp | hp | hp | hp | hp
    · exact .inr (.inl hp)
    · exact .inr (.inr (.inl hp))
    · exact .inr (.inr (.inr (.inl hp)))
    · exact .inr (.inr (.inr (.inr (.inl hp))))
    · exact .inr (.inr (.inr (.inr (.inr (.inl hp)))))
    · exact .inl hp
    · exact .inr (.inr (.inr (.inr (.inr (.inr hp)))))
  · exact TupsIn.snoc (own := (D, { cls := .type "tuple", data := .seq #[.int k tk, .int right tr] n3 }) :: (add ++ bs)) (p := (k, right)) (ta := tk) (tb := tr) (n := n3) (.head _) (xt.mono fun p hp => .tail _ hp)
  · intro p hp b hb'
    rcases List.mem_cons.mp hp with rfl | hp
    · simp only [List.mem_cons, List.not_mem_nil, or_false] at hb'
      rcases hb' with rfl | rfl | rfl | rfl | rfl
      · exact Nat.ne_of_gt hb.1
      · exact Nat.ne_of_gt hb.2.1
      · exact Nat.ne_of_gt hb.2.2.1
      · exact Nat.ne_of_gt hb.2.2.2.1
      · exact Nat.ne_of_gt hb.2.2.2.2
    · exact xo p hp b hb'
  · intro q hq p hp
    rcases List.mem_cons.mp hq with rfl | hq
    · exact Nat.ne_of_lt (b7 p (List.mem_append_right _ hp))
    · exact xn q hq p hp
  · unfold muX
    rw [if_neg (by rw [hkk]; exact Bool.false_ne_true)]
    exact Nat.succ_pos _
theorem tail_show {h₀ h3 : Heap} {s : Shared} {tk3 : Nat} {sh r nm A1 A2 : Addr} {onm oA2 wc' : Obj} {add rest bs : List (Addr × Obj)} {us : List Value} {ts : List Addr} {n1 n2 : Nat} {R : List (Int × Int)} {S ns : List Int} {k right M r' : Int} {tM tr' : Tok} {m₁ m' : Str → Option Value}
    (F3 : Fr h₀ h₀.objs.size h3 m') (N3 : News h₀ h₀.objs.size h3 ((sh, W.listOf (us ++ [Value.int M tM]).toArray (n2 + 1)) :: (r, W.listOf (List.toArray (ts.map Value.ref)) n1) :: (A1, wc') :: (nm, onm) :: (A2, oA2) :: (add ++ rest)))
    (hst : ∀ z, storedX.contains z = false → m' z = m₁ z) (hr : m' "right" = some (.int r' tr')) (xi : IntsAre us S) (xt : TupsIn (add ++ bs) ts R) (xo : OwnOff (add ++ rest) [sh, r, A1, nm, A2]) (xc : ∃ ov, wc'.data = .cell ov) (xn : ∀ q ∈ add, ∀ p ∈ rest, p.1 ≠ q.1)
    (xm : Mid k R (S ++ [M]) ns r') (hlt : 0 ≤ r' ∧ r' < right) :
    TailEnd sh r nm A1 A2 onm oA2 ns k rest bs h₀ s m₁ (right.toNat + 1) { s with heap := h3, toks := tk3 } := by
  refine ⟨⟨R, S ++ [M], ts, us ++ [Value.int M tM], n1, n2 + 1, wc', add, r', tr'⟩, m', h3, tk3, rfl, F3, N3, hst, hr, ⟨xi.append (.cons _ _ .nil), xt, xo, xc, xn, xm⟩, ?_⟩
  unfold muX
  dsimp only
  split <;> omega
theorem sum_of {prog : Program} {w : World} {A : Around} {E : Value → Shared → Prop} {s : Shared} {l : Addr} {vs : List Value} {ns : List Int} {Q : Value → Shared → Prop} (hh : A.handled = none) (hl : s.heap.IsList l vs.toArray) (hi : IntsAre vs ns)
    (h : ∀ h' tk t', (∀ b o, s.heap.get? b = some o → h'.get? b = some o) → Q (.int ns.sum t') { s with heap := h', toks := tk }) : wpAny (model prog w) A (call (.builtin "sum") [.ref l]) Q E s := by
  obtain ⟨xs, e⟩ := hi.allInts.items
  have hn : ns = numsOf (intItems xs).toList := by rw [← e]; exact hi.numsOf.symm
  rw [e] at hl
  refine sum_intListG hh hl fun h' tk t' hk => ?_
  have := h h' tk t' hk
  rw [hn, nums_intItems] at this
  rw [preSum_eq, List.take_of_length_le (by simp)]
  exact this
theorem byts_four {a b c d : Array UInt8} {nvs : List Value} (h : BytsAre nvs [a, b, c, d]) : ∃ t1 t2 t3 t4, nvs = [.bytes a t1, .bytes b t2, .bytes c t3, .bytes d t4] := by
  cases h with
  | cons _ t1 h => cases h with
    | cons _ t2 h => cases h with
      | cons _ t3 h => cases h with
        | cons _ t4 h => cases h with
          | nil => exact ⟨t1, t2, t3, t4, rfl⟩
theorem nm_four {nvs : List Value} (h : BytsAre nvs (nmB.map by8)) : ∃ t1 t2 t3 t4, nvs = [.bytes (by8 (nmB.getD 0 [])) t1, .bytes (by8 (nmB.getD 1 [])) t2, .bytes (by8 (nmB.getD 2 [])) t3, .bytes (by8 (nmB.getD 3 [])) t4] :=
  byts_four (h : BytsAre nvs [by8 (nmB.getD 0 []), by8 (nmB.getD 1 []), by8 (nmB.getD 2 []), by8 (nmB.getD 3 [])])
set_option maxHeartbeats 4000000
theorem turn_tail (w : World) {mean : ExcName → Option Value} {mg mb : Str → Option Value} {dp un : Nat} {fr : Option (List Env)} {gd : Option (List Code)} {h₀ : Heap} {s : Shared}
    (KX : (K w.params).In h₀) (T : Top (viewQ pw) (looseW (viewQ pw) looseL) mean mg mb h₀) {sh r nm A1 A2 : Addr} {ns : List Int} (hz : ns.length = 5) (hb : Bits ns)
    {a k right : Int} {tk tr : Tok} (ha : 0 ≤ a ∧ a < 5) (hk : Bit k) {onm oA2 : Obj} {rest : List (Addr × Obj)} (hA1 : A1 = h₀.objs.size + 1 + 1) (hA2 : A2 = h₀.objs.size + 1) (hord : @LT.lt Nat _ A2 A1 ∧ @LT.lt Nat _ A1 nm ∧ @LT.lt Nat _ nm r ∧ @LT.lt Nat _ r sh) (hoA : oA2.data = .cell (some (.ref nm))) {nvs : List Value} {n4 : Nat} (honm : onm = W.listOf (List.toArray nvs) n4) (hnv : BytsAre nvs (nmB.map by8)) (hd : dp + 10 < recursionLimit) (hu : un + 1000 < cLine)
    {R : List (Int × Int)} {S : List Int} {ts : List Addr} {us : List Value} {n1 n2 : Nat} {wc : Obj} {add rst bs : List (Addr × Obj)} (hrest : add ++ rest = rst)
    (xi : IntsAre us S) (xt : TupsIn (add ++ bs) ts R) (xo : OwnOff rst [sh, r, A1, nm, A2]) {ov : Option Value} (xc : wc.data = .cell ov) (xn : ∀ q ∈ add, ∀ p ∈ rest, p.1 ≠ q.1) (xm : Mid k R S ns right) (hkk : keepsL k R = true) (hne : right ≠ k)
    {B : Array UInt8} {tB : Tok} (hsrv : (∃ j : Nat, j < 5 ∧ B = replyB ((a + (j : Int)).fmod 5 + 1) (mailAt a ns j) ∧ hit a ns k (right - k) j = true) ∨ (B = noMail ∧ ∀ j < 5, hit a ns k (right - k) j = false))
    {m₁ : Str → Option Value} (hm : ∀ p ∈ ([("told", .bytes B tB), ("again", .bytes B tB), ("right", .int right tr), ("left", .int k tk), ("shown", .ref sh), ("rules", .ref r)] : List (Str × Value)), m₁ p.1 = some p.2)
    (F₁ : Fr h₀ h₀.objs.size s.heap m₁) (N₁ : News h₀ h₀.objs.size s.heap ((sh, W.listOf (List.toArray us) n2) :: (r, W.listOf (List.toArray (ts.map Value.ref)) n1) :: (A1, wc) :: (nm, onm) :: (A2, oA2) :: rst)) :
    wpAny (model pw w) ((Ar dp un fr gd).deeper (envOfC (Str.ofString "_law_explored") (fScope (stAt pw 23)) h₀.objs.size 205 (.ref 204))) (execs ((whBody exWhile).drop 3) (envOfC (Str.ofString "_law_explored") (fScope (stAt pw 23)) h₀.objs.size 205 (.ref 204)))
      (fun f s' => f = .next ∧ TailEnd sh r nm A1 A2 onm oA2 ns k rest bs h₀ s m₁ (right.toNat + 1) s') (fun _ _ => False) s := by
  subst hA1 hA2 honm
  have e₁ : kstB m₁ ([("told", .bytes B tB), ("again", .bytes B tB), ("right", .int right tr), ("left", .int k tk), ("shown", .ref sh), ("rules", .ref r)] : List (Str × Value)) = m₁ := by funext y; exact kstB_eq hm fun _ => rfl
  rw [← e₁] at F₁
  clear hm
  dsimp only [kstB] at F₁ e₁
  obtain ⟨bod, hbod⟩ : ∃ t, t = (whBody exWhile).drop 3 := ⟨_, rfl⟩
  rw [← hbod]
  conv at hbod => rhs; whnf
  subst hbod
  have hbS : Bits S := fun x hx => hb x (xm.sub.1 x hx)
  have hS : S.length ≤ 5 := by
    have := sub_len xm.sub.2 xm.sub.1
    omega
  rcases hsrv with ⟨j, hj, rfl, hhit⟩ | ⟨rfl, hno⟩
  · have hM := hb _ (mail_mem (a := a) hz j)
    have hJ : 1 ≤ (a + (j : Int)).fmod 5 + 1 ∧ (a + (j : Int)).fmod 5 + 1 ≤ 5 := by
      have h1 := Int.fmod_nonneg_of_pos (a + (j : Int)) (b := 5) (by decide)
      have h2 := Int.fmod_lt_of_pos (a + (j : Int)) (b := 5) (by decide)
      omega
    have hMm := mail_mem (a := a) hz j
    obtain ⟨hl1, hl2⟩ := hit_le.mp hhit
    generalize (a + (j : Int)).fmod 5 + 1 = J at hJ F₁ e₁ ⊢
    generalize mailAt a ns j = M at hM hMm hl1 hl2 F₁ e₁ ⊢
    k_steps
    refine Spec.use (spec_parse_yes w tB hJ hM) F₁ N₁ KX T trivial (by show dp + 1 + 1 < _; omega) (by show un + 3 + 100 < _; omega) ?_
    rintro v h2 tk2 F2 N2 k2 ⟨aw, ow, wvs, wn, rfl, hfw, hcw, hdw, hby⟩
    have hne2 := allNe_of (fresh_ne N₁ hfw)
    simp only [AllNe] at hne2
    obtain ⟨e1, e2, e3, e4, e5, _⟩ := hne2
    have N3 := news_fresh N2 F₁ hfw
    clear F₁ N₁ N2 k2 hfw
    generalize replyB J M = B at F2 e₁ ⊢
    k_steps
    · exfalso; rename (_ != _) = true => hx; simp at hx
    · exfalso; rename (_ != _) = true => hx; simp at hx
    rename News _ _ _ _ => N9
    refine eq_some ⟨_, N9.get (.tail _ (.head _)), hcw, _, hdw⟩ ⟨_, N9.get (.head _), rfl, _, rfl⟩ hby (by show un + 3 < _; omega) ?_
    replace N9 := News.drop N9
    iterate 17 (first | walk1 | (dsimp only; walk1))
    rename Fr _ _ _ _ => F9
    rename News _ _ _ _ => N9
    refine comp_byts F9 (pz := fun x => (by8 rcB :: (fwB M).map by8).any fun y => y.toList == x.toList) rfl (by rfl) (by decide) (by rfl) (by decide) (by rfl) (by intro _; rfl) ?_
    iterate 1 (first | walk1 | (dsimp only; walk1))
    rename Fr _ _ _ _ => F8
    rename News _ _ _ _ => N8
    try clear F9 N9
    refine ⟨_, _, nvs, _, rfl, N8.isList (.tail _ (.tail _ (.tail _ (.tail _ (.tail _ (.head _)))))), hnv, by decide, F8, N8, ?_, ?_, ?_⟩
    · intro C x v s₂ m₂ E' hC hx hi hn hm hk
      obtain ⟨t, rfl⟩ := hi
      obtain ⟨oC, eC, nC⟩ := LCg.ns_obj hn
      have N7 := news_comp F8 N8 hk hC eC
      have F7 := F8.keeps hk
      clear F8 N8
      refine wpAny_tests_one ?_
      k_steps
      rename News _ _ _ _ => N9
      refine in_byts ⟨_, N9.get (.tail _ (.tail _ (.head _))), hcw, _, hdw⟩ hby ?_
      k_steps
      exact ⟨_, _, rfl, fun _ _ h => h⟩
    · intro C x v s₂ m₂ E' hC hx hi hp hn hm hk
      obtain ⟨t, rfl⟩ := hi
      obtain ⟨oC, eC, nC⟩ := LCg.ns_obj hn
      have N7 := news_comp F8 N8 hk hC eC
      have F7 := F8.keeps hk
      clear F8 N8
      iterate 1 (first | walk1 | (dsimp only; walk1))
      exact ⟨⟨_, rfl⟩, _, _, rfl, fun _ _ h => h⟩
    · intro D ys h' tk F7 N7 hD hL hPl hC
      clear F8 N8
      obtain ⟨nD, N6⟩ := plain_news hPl F7 N7 hD
      clear N7
      iterate 1 (first | walk1 | (dsimp only; walk1))
      rename News _ _ _ _ => N6
      rename Fr _ _ _ _ => F6
      refine kde_tupleOf F6 N6 (N6.isList (.head _)) (by rw [List.size_toArray, hC.length]; exact Nat.le_trans (List.length_filter_le _ _) (by decide)) List.toList_toArray ?_
      intro D2 h3 F3 N3 hlt3
      clear F6 N6
      replace N3 : News h₀ h₀.objs.size h3 _ := fun p hp => N3 p (by
        rcases List.mem_cons.mp hp with rfl | hp
        · exact .head _
        · exact .tail _ (.tail _ hp))
      rw [words_keep hM] at hC
      refine add_words F3 N3 (.tail _ (.head _)) (.head _) hC (by rw [List.length_map]; exact Nat.le_trans (fwB_len M) (by decide)) ?_
      intro D4 h4 zs F4 N4 hT4 hz4
      clear F3 N3
      refine ne_byts ⟨_, N4.get (.tail _ (.tail _ (.head _))), hcw, _, hdw⟩ hT4 hby hz4 (by show un + 3 < _; omega) ?_
      replace N4 := News.drop (News.drop N4)
      clear hz4 hT4
      obtain ⟨t1, t2, t3, t4, rfl⟩ := nm_four hnv
      iterate 14 (first | walk1 | (dsimp only; walk1))
      rename News _ _ _ _ => N9
      rename Fr _ _ _ _ => F9
      refine comp_range F9 (pz := fun j => decide ((M.fdiv (2 ^ j.toNat)).fmod 2 = 1)) (d := fun j => .int (2 ^ j.toNat)) rfl (by rfl) (by decide) (by rfl) (by decide) (by rfl) (by intro _; rfl) ?_
      iterate 7 (first | walk1 | (dsimp only; walk1))
      rename Fr _ _ _ _ => F8
      rename News _ _ _ _ => N8
      rename IsRange _ _ _ _ _ _ _ _ => R8
      try clear F9 N9
      refine ⟨_, _, _, _, _, _, _, _, 4, rfl, R8, by decide, by decide, by decide, F8, N8, ?_, ?_, ?_⟩
      · intro C x v s₂ m₂ E' hC hx hi hn hm hk
        obtain ⟨t, rfl⟩ := ItemKind.int_is hi
        obtain ⟨oC, eC, nC⟩ := LCg.ns_obj hn
        have N7 := news_comp F8 N8 hk hC eC
        have F7 := F8.keeps hk
        clear F8 N8 R8
        refine wpAny_tests_one ?_
        rcases range4 hx with rfl | rfl | rfl | rfl
        all_goals k_steps
        all_goals rename News _ _ _ _ => N9
        all_goals refine in_byts ⟨_, N9.get (.tail _ (.head _)), hcw, _, hdw⟩ hby ?_
        all_goals rw [word_in hM (by decide)]
        all_goals iterate 1 (first | walk1 | (dsimp only; walk1))
        all_goals exact ⟨rfl, _, _, rfl, fun _ _ h => h⟩
      · intro C x v s₂ m₂ E' hC hx hi hp hn hm hk
        obtain ⟨t, rfl⟩ := ItemKind.int_is hi
        obtain ⟨oC, eC, nC⟩ := LCg.ns_obj hn
        have N7 := news_comp F8 N8 hk hC eC
        have F7 := F8.keeps hk
        clear F8 N8 R8
        rcases range4 hx with rfl | rfl | rfl | rfl
        all_goals k_steps
        all_goals first | exact Carried.int _ _ | exact ⟨_, _, rfl, fun _ _ h => h⟩
      · intro D ys h' tk F7 N7 hD hL hPl hC
        clear F8 N8 R8
        have hI : IntsAre ys (((rangeInts 0 1 4).filter fun j => decide ((M.fdiv (2 ^ j.toNat)).fmod 2 = 1)).map fun j => (2 : Int) ^ j.toNat) := IntsAre.ofCarried (by rw [List.map_map]; exact hC)
        clear hC
        replace N7 := News.drop N7
        iterate 1 (first | walk1 | (dsimp only; walk1))
        rename News _ _ _ _ => N7
        rename Fr _ _ _ _ => F7
        refine sum_of rfl hL hI ?_
        intro h6 tk6 t6 k6
        rw [words_sum hM]
        have F6 := F7.keeps k6
        have N6 := N7.grown k6
        clear F7 N7
        iterate 1 (first | walk1 | (dsimp only; walk1))
        refine append_led (pre := []) F6 N6 (fun p hp => nomatch hp) ?_ (by rw [xi.length]; omega) ?_
        · k_all
        intro h7 F5 N5
        clear F6 N6
        dsimp only [List.nil_append] at N5
        k_steps
        refine Spec.use (spec_meet w k _ sh (S ++ [M])) F5 N5 KX T ⟨_, N5.isList (.head _), xi.append (.cons _ _ .nil)⟩ (by show dp + 1 + 1 < _; omega) (by show un + 3 + 10 < _; omega) ?_
        rintro v h8 tk8 F4 N4 _ ⟨t8, rfl⟩
        clear F5 N5
        k_steps
        rename News _ _ _ _ => N9
        rename Fr _ _ _ _ => F9
        rename (_ : Obj).data = Data.cell (some (Value.ref _)) => hcell
        have hsh := xm.show_ hb hk hkk hMm hl1 hl2
        subst hrest
        exact tail_show F9 N9 (by
          intro z hz
          have hz' : ¬ z = Str.ofString "right" := by
            rintro rfl
            exact absurd hz (by decide)
          have e₃ := congrFun e₁ z
          try dsimp only at e₃
          try dsimp only
          simp only [hz', if_false] at e₃ ⊢
          exact e₃) rfl xi xt xo ⟨_, hcell⟩ xn hsh.1 hsh.2.1
  · k_steps
    refine Spec.use (spec_parse_no w tB) F₁ N₁ KX T trivial (by show dp + 1 + 1 < _; omega) (by show un + 3 + 100 < _; omega) ?_
    rintro v h2 tk2 F2 N2 k2 ⟨aw, ow, wvs, wn, rfl, hfw, hcw, hdw, hby⟩
    have hne2 := allNe_of (fresh_ne N₁ hfw)
    simp only [AllNe] at hne2
    obtain ⟨e1, e2, e3, e4, e5, _⟩ := hne2
    have N3 := news_fresh N2 F₁ hfw
    clear F₁ N₁ N2 k2 hfw
    k_steps
    · exfalso; rename (_ != _) = true => hx; simp at hx
    · exfalso; rename (_ != _) = true => hx; simp at hx
    rename News _ _ _ _ => N9
    refine eq_none ⟨_, N9.get (.tail _ (.head _)), hcw, _, hdw⟩ ⟨_, N9.get (.head _), rfl, _, rfl⟩ hby (by show un + 3 < _; omega) ?_
    replace N9 := News.drop (News.drop N9)
    clear hby hcw hdw e1 e2 e3 e4 e5
    k_steps
    rename News _ _ _ _ => N9
    rename Fr _ _ _ _ => F9
    rename _ ∧ _ => hlt
    obtain ⟨b1, b2, b3, b4, b5, b6⟩ := hlt
    have b7 := allLt_mem b6
    refine append_led (pre := [_, _]) F9 N9 ?_ ?_ (by rw [List.length_map, xt.length]; have := xm.len hk; omega) ?_
    · k_all
    · k_all
    intro h3 F3 N3
    try clear F9 N9
    rw [e₁] at F3
    dsimp only [List.cons_append, List.nil_append] at N3
    k_steps
    rename (_ : Obj).data = Data.cell (some (Value.ref _)) => hcell
    have hrule := xm.rule_ hb hk hkk hne fun M hM hl => by
      obtain ⟨j, hj, rfl⟩ := mail_all ha hz hM
      refine Classical.byContradiction fun hn => ?_
      have := hno j hj
      rw [hit_le.mpr ⟨hl, hn⟩] at this
      cases this
    subst hrest
    exact tail_rule F3 N3 (by rw [← e₁]; rfl) xi xt xo ⟨_, hcell⟩ xn hrule.1 hrule.2 ⟨b1, b2, b3, b4, b5⟩ b7
end Mine
end
section
open PySem PySem.W PyProof.Rows
set_option maxRecDepth 100000
namespace Mine
theorem filled_wx2 : PySem.Challenge.rw_ku0043_01 = PySem.Challenge.rw_ku0043_01 ∧ K = K := by
  k_fill
  exact ⟨rfl, rfl⟩
set_option maxHeartbeats 4000000
set_option pp.maxSteps 20000
set_option pp.deepTerms false
set_option pp.deepTerms.threshold 6
theorem fr_gen {h₀ h : Heap} {L : Addr} {m : Str → Option Value} (F : Fr h₀ L h m) : ∃ f, f = m ∧ Fr h₀ L h f := ⟨m, rfl, F⟩
theorem explored_while (w : World) {mean : ExcName → Option Value} {mg mb : Str → Option Value} {dp un : Nat} {fr : Option (List Env)} {gd : Option (List Code)} {h₀ : Heap} {s : Shared} {Q : Flow → Shared → Prop}
    (KX : (K w.params).In h₀) (T : Top (viewQ pw) (looseW (viewQ pw) looseL) mean mg mb h₀) {l sh r nm A1 A2 : Addr} {vs : List Value} {ns : List Int} (hL : h₀.IsList l vs.toArray) (hI : IntsAre vs ns) (hz : ns.length = 5) (hb : Bits ns)
    {a c k : Int} {ta tc tq : Tok} (ha : 0 ≤ a ∧ a < 5) (hc : 0 ≤ c ∧ c < 540) (hk : Bit k) {onm oA2 : Obj} {rest bs : List (Addr × Obj)} (hbs : ∀ p ∈ bs, p ∈ rest) (hA1 : A1 = h₀.objs.size + 1 + 1) (hA2 : A2 = h₀.objs.size + 1) (hord : @LT.lt Nat _ A2 A1 ∧ @LT.lt Nat _ A1 nm ∧ @LT.lt Nat _ nm r ∧ @LT.lt Nat _ r sh) (hoA : oA2.data = .cell (some (.ref nm))) {nvs : List Value} {n4 : Nat} (honm : onm = W.listOf (List.toArray nvs) n4) (hnv : BytsAre nvs (nmB.map by8)) (hd : dp + 10 < recursionLimit) (hu : un + 1000 < cLine)
    (c₀ : XS) {m₀ : Str → Option Value} (F : Fr h₀ h₀.objs.size s.heap m₀) (N : News h₀ h₀.objs.size s.heap (ledX sh r nm A1 A2 onm oA2 rest c₀)) (hm : ∀ p ∈ psX sh r l k a c tq ta tc, m₀ p.1 = some p.2) (hr : m₀ "right" = some (.int c₀.right c₀.tr)) (X : XF sh r nm A1 A2 ns k rest bs c₀)
    (done : ∀ (c' : XS) m' h' tk', Fr h₀ h₀.objs.size h' m' → News h₀ h₀.objs.size h' (ledX sh r nm A1 A2 onm oA2 rest c') → (∀ z, storedX.contains z = false → m' z = m₀ z) → XF sh r nm A1 A2 ns k rest bs c' → Inv (k + 1) c'.R c'.S ns → Q .next { s with heap := h', toks := tk' }) :
    wpAny (model pw w) ((Ar dp un fr gd).deeper (envOfC (Str.ofString "_law_explored") (fScope (stAt pw 23)) h₀.objs.size 205 (.ref 204))) (exec exWhile (envOfC (Str.ofString "_law_explored") (fScope (stAt pw 23)) h₀.objs.size 205 (.ref 204))) Q (fun _ _ => False) s := by
  rw [exWhile_is]
  refine While_inv2 (fun n m nx => ∃ c : XS, nx = ledX sh r nm A1 A2 onm oA2 rest c ∧ muX k c = n ∧ m "right" = some (.int c.right c.tr) ∧ (∀ z, storedX.contains z = false → m z = m₀ z) ∧ XF sh r nm A1 A2 ns k rest bs c) F N ⟨c₀, rfl, rfl, hr, fun _ _ => rfl, X⟩ ?_
  rintro n m₁ nx h tk₁ F₁ N₁ ⟨c₁, rfl, rfl, hr₁, hm₁, X₁⟩
  clear F N X hr
  have hps : ∀ p ∈ (("right" : Str), Value.int c₁.right c₁.tr) :: psX sh r l k a c tq ta tc, m₁ p.1 = some p.2 := by
    intro p hp
    rcases List.mem_cons.mp hp with rfl | hp
    · exact hr₁
    · rw [hm₁ p.1 ?_]
      · exact hm p hp
      · simp only [psX, List.mem_cons, List.not_mem_nil, or_false] at hp
        rcases hp with rfl | rfl | rfl | rfl | rfl | rfl <;> (dsimp only; decide)
  have e₂ : kstB m₁ (("right", Value.int c₁.right c₁.tr) :: psX sh r l k a c tq ta tc) = m₁ := by funext y; exact kstB_eq hps fun _ => rfl
  have F₂ : Fr h₀ h₀.objs.size h (kstB m₁ (("right", Value.int c₁.right c₁.tr) :: psX sh r l k a c tq ta tc)) := by
    rw [e₂]
    exact F₁
  clear F₁ hps
  dsimp only [kstB, psX] at F₂ e₂
  obtain ⟨R, S, ts, us, n1, n2, wc, add, right, tr⟩ := c₁
  obtain ⟨xi, xt, xo, ⟨ov, xc⟩, xn, xm⟩ := X₁
  dsimp only [ledX] at N₁
  dsimp only at F₂ e₂ hr₁ xi xt xo xc xn xm ⊢
  generalize hrest : add ++ rest = rst at N₁ xo
  obtain ⟨tst, ht⟩ : ∃ t, t = whTest exWhile := ⟨_, rfl⟩
  obtain ⟨bod, hbod⟩ : ∃ t, t = whBody exWhile := ⟨_, rfl⟩
  rw [← ht, ← hbod]
  conv at ht => rhs; whnf
  conv at hbod => rhs; whnf
  subst ht hbod
  have hS : S.length ≤ 5 := by
    have := sub_len xm.sub.2 xm.sub.1
    omega
  have hR : R.length ≤ 16 := xm.len hk
  have hmem : ∀ p ∈ add ++ bs, p ∈ rst := fun p hp => hrest ▸ (List.mem_append.mp hp).elim (fun h => List.mem_append_left _ h) (fun h => List.mem_append_right _ (hbs _ h))
  iterate 8 (first | walk1 | (dsimp only; walk1))
  · k_steps
    refine Spec.use (spec_keeps w k tq r R hR) F₂ N₁ KX T ⟨ts, N₁.isList (.tail _ (.head _)), xt.are fun p hp => N₁ p (.tail _ (.tail _ (.tail _ (.tail _ (.tail _ (hmem p hp))))))⟩ (by show dp + 1 + 1 < _; omega) (by show un + 3 + 100 < _; omega) ?_
    intro v h' tk' F' N' k' hv
    subst hv
    clear F₂ N₁
    rw [brk_keeps]
    by_cases hkk : keepsL k R = true
    · rw [hkk]
      have hbS : Bits S := fun x hx => hb x (xm.sub.1 x hx)
      have hrr := xm.1
      have hrb : Bit right := by rw [hrr]; exact meet_bit hbS
      have hkr : Le k right := by rw [hrr]; exact le_meet hbS hk
      have hob := (le_sub (m := 0) hk hrb (by decide) hkr).1
      obtain ⟨nR, hnR⟩ : ∃ n : Int, ((List.toArray (ts.map Value.ref)).size : Int) = n := ⟨_, rfl⟩
      have hR2 : 0 ≤ nR ∧ nR ≤ 16 := by rw [← hnR, List.size_toArray, List.length_map, xt.length]; omega
      k_steps
      generalize hcc : c + 7 * _ = cc
      have hcb : 0 ≤ cc ∧ cc < 1000 := by
        have h1 := xt.length
        simp only [List.size_toArray, List.length_map] at hcc
        omega
      clear hcc
      refine Spec.use (spec_typed w k (right - k) cc _ _ _ hk hob hcb) F' N' KX T trivial (by show dp + 1 + 4 < _; omega) (by show un + 3 + 20 < _; omega) ?_
      rintro v h5 tk5 F5 N5 k5 ⟨t7, rfl⟩
      have hkn := typed_known k (right - k) cc
      have hrs := typed_res cc hk hob
      generalize typedT k (right - k) cc = txt at hkn hrs F5 N5 ⊢
      clear F' N' k'
      iterate 18 (first | walk1 | (dsimp only; walk1))
      refine ⟨KX.keeps (Fr.keep (by assumption)), ?_⟩
      rename Fr _ _ _ _ => F6
      rename News _ _ _ _ => N6
      refine SpecK.use (spec_info_none w (.str txt t7) (.int a ta) (.ref l)) F6 N6 KX T trivial (by show dp + 1 + 1 < _; omega) (by show un + 3 + 100 < _; omega) ?_
      rintro v h7 tk7 F7 N7 k7 ⟨a7, o7, x7, y7, n7, rfl, hf7, rfl, rfl, ⟨u7, rfl⟩⟩
      have N8 := news_fresh N7 F6 hf7
      clear F6 N6 N7 k7
      k_steps
      rename News _ _ _ _ => N9
      rename Fr _ _ _ _ => F9
      refine ne_tuple_of ⟨_, N9.get (.tail _ (.head _)), rfl, _, rfl⟩ ⟨_, N9.get (.head _), rfl, _, rfl⟩ (by show un + 3 < _; omega) rfl ?_ ?_
      · intro j h1 h2
        match j, h1, h2 with
        | 0, _, _ => exact PySem.SeqAt.EqAt.same _
        | 1, _, _ => exact eqAt_str _ _ _
      replace N9 := News.drop (News.drop N9)
      k_steps
      rename Fr _ _ _ _ => F6
      rename News _ _ _ _ => N6
      clear k5 hf7
      refine SpecK.use (spec_info_srv w txt a l ns _ _ hkn hz hb ha hrs) F6 N6 KX T ⟨vs, hL.at fun o e => F6.keep _ o e, hI⟩ (by show dp + 1 + 6 < _; omega) (by show un + 3 + 200 < _; omega) ?_
      rintro v h7 tk7 F7 N7 k7 ⟨a7, o7, x7, y7, n7, rfl, hf7, rfl, ⟨u7, rfl, rfl⟩⟩
      have N8 := news_fresh N7 F6 hf7
      clear F6 N6 N7 k7 hf7 hkn hrs
      have hsrv : (∃ j : Nat, j < 5 ∧ srvB a ns k (right - k) = replyB ((a + (j : Int)).fmod 5 + 1) (mailAt a ns j) ∧ hit a ns k (right - k) j = true) ∨ (srvB a ns k (right - k) = noMail ∧ ∀ j < 5, hit a ns k (right - k) j = false) := by
        unfold srvB
        cases hf : (List.range 5).find? (hit a ns k (right - k)) with
        | none => exact .inr ⟨rfl, fun j hj => by simpa using List.find?_eq_none.mp hf j (List.mem_range.mpr hj)⟩
        | some j => exact .inl ⟨j, List.mem_range.mp (List.mem_of_find?_eq_some hf), rfl, List.find?_some hf⟩
      generalize srvB a ns k (right - k) = B at hsrv N8 ⊢
      iterate 9 (first | walk1 | (dsimp only; walk1))
      rename News _ _ _ _ => N9
      rename Fr _ _ _ _ => F9
      rename ¬ right = k => hne
      replace N9 := News.drop N9
      obtain ⟨fm, hfm, F10⟩ := fr_gen F9
      clear F9
      have hps2 : ∀ p ∈ ([("told", .bytes B u7), ("again", .bytes B u7), ("right", .int right tr), ("left", .int k tq), ("shown", .ref sh), ("rules", .ref r)] : List (Str × Value)), fm p.1 = some p.2 := by
        subst hfm
        intro p hp
        simp only [List.mem_cons, List.not_mem_nil, or_false] at hp
        rcases hp with rfl | rfl | rfl | rfl | rfl | rfl <;> rfl
      have hst : ∀ z, storedX.contains z = false → fm z = m₀ z := by
        subst hfm
        intro z hz
        rw [← hm₁ z hz]
        have e3 := congrFun e₂ z
        try dsimp only at e3
        have z1 : ¬ z = Str.ofString "right" := by rintro rfl; exact absurd hz (by decide)
        have z2 : ¬ z = Str.ofString "typed" := by rintro rfl; exact absurd hz (by decide)
        have z3 : ¬ z = Str.ofString "told" := by rintro rfl; exact absurd hz (by decide)
        have z4 : ¬ z = Str.ofString "again" := by rintro rfl; exact absurd hz (by decide)
        simp only [z1, z2, z3, z4, if_false] at e3 ⊢
        exact e3
      refine wpAny_mono (turn_tail w KX T hz hb ha hk hA1 hA2 hord hoA honm hnv hd hu hrest xi xt xo xc xn xm hkk hne hsrv hps2 F10 N9) (fun f s' hh => ?_) (fun _ _ h => h)
      obtain ⟨rfl, c', m', h'', tk'', rfl, F', N', hst', hr', X', hmu⟩ := hh
      refine ⟨h'', tk'', m', _, muX k c', rfl, F', N', Nat.lt_of_lt_of_eq hmu ?_, c', rfl, rfl, hr', fun z hz => (hst' z hz).trans (hst z hz), X'⟩
      unfold muX
      rw [if_pos hkk]
    · have hkk := Bool.eq_false_iff.mpr hkk
      rw [hkk]
      k_steps
      rw [e₂] at F'
      subst hrest
      exact done ⟨R, S, ts, us, n1, n2, wc, add, right, tr⟩ m₁ h' tk' F' N' hm₁ ⟨xi, xt, xo, ⟨ov, xc⟩, xn, xm⟩ (xm.done (.inr hkk))
  · rename_i hrk
    k_steps
    rw [e₂] at F₂
    subst hrest
    exact done ⟨R, S, ts, us, n1, n2, wc, add, right, tr⟩ m₁ _ _ F₂ N₁ hm₁ ⟨xi, xt, xo, ⟨ov, xc⟩, xn, xm⟩ (xm.done (.inl hrk))
end Mine
end
section
open PySem PySem.W PyProof.Rows
set_option maxRecDepth 100000
namespace Mine
theorem filled_wxe : PySem.Challenge.rw_ku0043_01 = PySem.Challenge.rw_ku0043_01 ∧ K = K := by
  k_fill
  exact ⟨rfl, rfl⟩
set_option maxHeartbeats 4000000
set_option pp.maxSteps 20000
set_option pp.deepTerms false
set_option pp.deepTerms.threshold 6
/-- the rules and the shown mails: a tuple of two made lists -/
def ExploredIs (ns : List Int) (h : Heap) (v : Value) (h' : Heap) : Prop :=
  ∃ t r sh ts us n n1 n2 R S own, v = .ref t ∧ Fresh h h' t { cls := .type "tuple", data := .seq #[.ref r, .ref sh] n } ∧ (∀ p ∈ (r, W.listOf (List.toArray (ts.map Value.ref)) n1) :: (sh, W.listOf (List.toArray us) n2) :: own, Fresh h h' p.1 p.2) ∧
    TupsIn own ts R ∧ IntsAre us S ∧ Inv 16 R S ns ∧ R.length ≤ 16
structure ES where
  R : List (Int × Int)
  S : List Int
  ts : List Addr
  us : List Value
  n1 : Nat
  n2 : Nat
  wc : Obj
def ledE (sh r A1 : Addr) (c : ES) : List (Addr × Obj) := [(sh, W.listOf (List.toArray c.us) c.n2), (r, W.listOf (List.toArray (c.ts.map Value.ref)) c.n1), (A1, c.wc)]
def psE (sh r l : Addr) (a c : Int) (ta tc : Tok) (_ : ES) : List (Str × Value) := [("shown", .ref sh), ("rules", .ref r), ("look", .int c tc), ("first", .int a ta), ("mails", .ref l)]
def factsE (cst own : List (Addr × Obj)) (c : ES) : Prop := (∃ tl, own = cst ++ tl ∧ TupsIn tl c.ts c.R) ∧ IntsAre c.us c.S ∧ ∃ ov, c.wc.data = .cell ov
theorem led_cap {h₀ h : Heap} {L sh r nm A1 A2 : Addr} {x1 x2 x3 x4 x5 : Obj} (N : News h₀ L h [(sh, x1), (r, x2), (nm, x3), (A1, x4), (A2, x5)]) : ∃ y3, x3 = y3 ∧ News h₀ L h [(sh, x1), (r, x2), (A1, x4), (nm, y3), (A2, x5)] := ⟨x3, rfl, fun p hp => N p (by
  simp only [List.mem_cons, List.not_mem_nil, or_false] at hp ⊢
  rcases hp with h | h | h | h | h
  · exact .inl h
  · exact .inr (.inl h)
  · exact .inr (.inr (.inr (.inl h)))
  · exact .inr (.inr (.inl h))
  · exact .inr (.inr (.inr (.inr h))))⟩
theorem spec_explored (w : World) (l : Addr) (a c : Int) (ta tc : Tok) (ns : List Int) (hz : ns.length = 5) (hb : Bits ns) (ha : 0 ≤ a ∧ a < 5) (hc : 0 ≤ c ∧ c < 540) :
    Spec w 205 [.ref l, .int a ta, .int c tc] 10 1000 (fun h => IntsAt h l ns) (ExploredIs ns) := by
  intro mean mg mb dp un fr gd s Q E tp hp hd hu hq
  obtain ⟨vs, hL, hI⟩ := hp
  have KX : (K w.params).In s.heap := tp.X
  have T := tp.T
  refine enterC (scope := fScope (stAt pw 23)) (params := fArgs (stAt pw 23)) (body := fBody (stAt pw 23)) tp (by omega) rfl rfl (by rfl) (by rfl) (by rfl) (by decide +kernel) ?_ (by rfl) (by rfl) (by rfl)
  intro h₁ tk cells F N Y
  conv in (fBody _) => whnf
  have hY := CellsAre.two Y; obtain ⟨o', o2', hE', d1', d2'⟩ := hY; subst hE'; clear Y
  iterate 38 (first | walk1 | (dsimp only; walk1))
  rename News _ _ _ _ => N5
  rename Fr _ _ _ _ => F5
  rename IsRange _ _ _ _ _ _ _ _ => R5
  rename_i nm hA l1a hB oA2 dA tk2 r hC l1b hD tk1 sh hE l1c hF FF NN hG tkG t1 u1 v1 aK
  obtain ⟨onm, honm, N6⟩ := led_cap N5
  clear N5 NN FF aK
  have hord : @LT.lt Nat _ (s.heap.objs.size + 1) (s.heap.objs.size + 1 + 1) ∧ @LT.lt Nat _ (s.heap.objs.size + 1 + 1) nm ∧ @LT.lt Nat _ nm r ∧ @LT.lt Nat _ r sh := ⟨Nat.lt_succ_self _, l1a.1, l1b.1, l1c.1⟩
  clear l1a l1b l1c
  refine kd_range (ledE sh r (s.heap.objs.size + 1 + 1)) [(nm, onm), (s.heap.objs.size + 1, oA2)] (psE sh r l a c ta tc) (factsE [(nm, onm), (s.heap.objs.size + 1, oA2)]) storedX (fun pre c => Inv (pre.length : Int) c.R c.S ns) [sh, r, s.heap.objs.size + 1 + 1, nm, s.heap.objs.size + 1] ⟨[], [], [], [], 0, 0, o'⟩ (n := 16) rfl R5 (by decide) (by decide) F5 N6 (fun _ hp => hp) (fun _ => rfl) ⟨⟨[], rfl, .nil⟩, .nil, ⟨_, d1'⟩⟩ ?_ inv0 ?_ ?_
  · intro p hp
    simp only [psE, List.mem_cons, List.not_mem_nil, or_false] at hp
    rcases hp with rfl | rfl | rfl | rfl | rfl <;> rfl
  · rintro ⟨R, S, ts, us, n1, n2, wc⟩ tl pre k t u h tk own hk hlt sep off ⟨⟨tl', etl, hT⟩, hI', ⟨ov, hov⟩⟩ hp F N
    have etl := List.append_cancel_left etl
    subst etl
    dsimp only at hT hI' hov hp
    have hkb : Bit k := ⟨by omega, by omega⟩
    have hk' : k = (pre.length : Int) := by omega
    rw [← hk'] at hp
    dsimp only [ledE, List.cons_append, List.nil_append] at N
    dsimp only [kstB, psE] at F
    clear F5 N6 R5
    k_steps
    refine Spec.use (spec_meet w k _ sh S) F N KX T ⟨_, N.isList (.head _), hI'⟩ (by show dp + 1 + 1 < _; omega) (by show un + 3 + 10 < _; omega) ?_
    rintro v h8 tk8 F8 N8 _ ⟨t8, rfl⟩
    clear F N
    iterate 4 (first | walk1 | (dsimp only; walk1))
    rename News _ _ _ _ => N9
    rename Fr _ _ _ _ => F9
    change wpAny (model pw w) _ (exec exWhile (envOfC (Str.ofString "_law_explored") (fScope (stAt pw 23)) s.heap.objs.size 205 (.ref 204))) _ (fun _ _ => False) _
    refine explored_while (ta := ta) (tc := tc) (tq := t) w KX T hL hI hz hb ha hc hkb (fun p hp => List.mem_append_left _ hp) rfl rfl hord dA honm.symm (.cons _ _ (.cons _ _ (.cons _ _ (.cons _ _ .nil)))) hd hu ⟨R, S, ts, us, n1, n2, wc, [], meetL k S, t8⟩ F9 N9 ?_ ?_ ⟨hI', hT, off, ⟨ov, hov⟩, (fun q hq => nomatch hq), hp.mid⟩ ?_
    · intro p hp
      simp only [psX, List.mem_cons, List.not_mem_nil, or_false] at hp
      rcases hp with rfl | rfl | rfl | rfl | rfl | rfl <;> rfl
    · rfl
    · intro c' m' h' tk' F' N' hst X' I'
      refine wpAny_execs_nil ?_
      obtain ⟨xi, xt, xo, xc, xn, _⟩ := X'
      have hadd : ∀ q ∈ c'.add, q ∈ c'.add ++ (tl ++ own) := fun q hq => List.mem_append_left _ hq
      refine kd_end (x := "left") ⟨c'.R, c'.S, c'.ts, c'.us, c'.n1, c'.n2, c'.wc⟩ c'.add sep F' N' ?_ ?_ rfl ?_ ?_ ?_ ?_ ⟨⟨c'.add ++ tl, rfl, xt⟩, xi, xc⟩ ?_
      · intro p hp
        simp only [ledE, ledX, List.mem_append, List.mem_cons, List.not_mem_nil, or_false] at hp ⊢
        rcases hp with (h | h | h) | (h | h) | h | h
        · exact .inl h
        · exact .inr (.inl h)
        · exact .inr (.inr (.inl h))
        · exact .inr (.inr (.inr (.inl h)))
        · exact .inr (.inr (.inr (.inr (.inl h))))
        · exact .inr (.inr (.inr (.inr (.inr (.inl h)))))
        · exact .inr (.inr (.inr (.inr (.inr (.inr (.inl h))))))
      · intro p hp
        exact .tail _ (.tail _ (.tail _ (.tail _ (.tail _ (List.mem_append_right _ (List.mem_append_right _ hp))))))
      · intro q hq b hb'
        exact Ne.symm (xo q (hadd q hq) b hb')
      · intro q hq p hp
        exact xn q hq p (List.mem_append_right _ hp)
      · intro p hp
        simp only [psE, List.mem_cons, List.not_mem_nil, or_false] at hp
        rcases hp with rfl | rfl | rfl | rfl | rfl <;> (dsimp only; rw [hst _ (by decide)]; rfl)
      · intro z h1 h2 h3
        rw [hst z h3]
        have z1 : ¬ z = Str.ofString "right" := by rintro rfl; exact absurd h3 (by decide)
        have z2 : ¬ z = Str.ofString "left" := h1
        have h2' : ∀ p ∈ psE sh r l a c ta tc ⟨R, S, ts, us, n1, n2, wc⟩, ¬ z = p.1 := h2
        simp only [psE, List.mem_cons, List.not_mem_nil, or_false, forall_eq_or_imp, forall_eq] at h2'
        obtain ⟨y1, y2, y3, y4, y5⟩ := h2'
        simp only [z1, z2, y1, y2, y3, y4, y5, h3, if_false, Bool.false_eq_true]
        rfl
      · show Inv ((pre ++ [k]).length : Int) c'.R c'.S ns
        rw [List.length_append, show (([k] : List Int).length) = 1 from rfl, Int.natCast_add, ← hk']
        exact I'
  · rintro ⟨R, S, ts, us, n1, n2, wc⟩ tl u h tk off ⟨⟨tl', etl, hT⟩, hI', ⟨ov, hov⟩⟩ hp F N
    have etl := List.append_cancel_left etl
    subst etl
    dsimp only at hT hI' hov hp
    dsimp only [ledE, List.cons_append, List.nil_append] at N
    dsimp only [kstB, psE] at F
    clear F5 N6 R5
    k_steps
    rename News _ _ _ _ => N9
    rename Fr _ _ _ _ => F9
    have h16 : ((rangeKs 0 16).length : Int) = 16 := by decide
    rw [h16] at hp
    refine hq _ _ _ F9.keep ⟨_, r, sh, ts, us, _, n1, n2, R, S, tl, rfl, Fresh.of N9 (.head _), fun p hp => Fresh.of N9 ?_, hT, hI', hp, hp.rlen⟩
    rcases List.mem_cons.mp hp with rfl | hp
    · exact .tail _ (.tail _ (.head _))
    · rcases List.mem_cons.mp hp with rfl | hp
      · exact .tail _ (.head _)
      · exact .tail _ (.tail _ (.tail _ (.tail _ (.tail _ (.tail _ hp)))))
end Mine
end
section
open PySem PySem.W PyProof.Rows
set_option maxRecDepth 100000
namespace Mine
theorem filled_wb2 : PySem.Challenge.rw_ku0043_01 = PySem.Challenge.rw_ku0043_01 ∧ K = K := by
  k_fill
  exact ⟨rfl, rfl⟩
def brokenOf (a b : Int) (R : List (Int × Int)) : List (Int × Int) := R.filter fun p => !([(a, b)].filter (brk p.1)).isEmpty
set_option maxHeartbeats 4000000
set_option pp.maxSteps 20000
set_option pp.deepTerms false
set_option pp.deepTerms.threshold 6
theorem spec_broken (w : World) (a b : Int) (rt l : Addr) (ta tb : Tok) (R : List (Int × Int)) (hz : R.length ≤ 16) : Spec w 200 [.ref rt, .ref l] 2 120 (fun h => PairsAt h l R ∧ h.IsTuple rt #[.int a ta, .int b tb])
    (fun h v h' => ∃ D us n, v = .ref D ∧ Fresh h h' D (W.listOf (List.toArray us) n) ∧ IntsAre us ((brokenOf a b R).map (·.1))) := by
  intro mean mg mb dp un fr gd s Q E tp hp hd hu hq
  have KX : (K w.params).In s.heap := tp.X
  have T := tp.T
  refine enterC (scope := fScope (stAt pw 22)) (params := fArgs (stAt pw 22)) (body := fBody (stAt pw 22)) tp (by omega) rfl rfl (by rfl) (by rfl) (by rfl) (by decide +kernel) ?_ (by rfl) (by rfl) (by rfl)
  intro h₁ tk cells F N Y
  conv in (fBody _) => whnf
  have hY := CellsAre.one Y; obtain ⟨o', hE', d1'⟩ := hY; subst hE'; clear Y
  iterate 2 walk1
  rename Fr _ _ _ _ => F5
  rename News _ _ _ _ => N5
  refine comp_pairs F5 (pz := fun p => !([(a, b)].filter (brk p.1)).isEmpty) (d := fun p => .int p.1) rfl (by rfl) (by decide) (by rfl) (by decide) (by rfl) (by rfl) (by decide) (by intro _; rfl) ?_
  iterate 1 (first | walk1 | (dsimp only; walk1))
  rename Fr _ _ _ _ => F6
  rename News _ _ _ _ => N6
  refine ⟨_, l, R, rfl, hp.1.keeps F6.keep, Nat.le_trans hz (by decide), F6, N6, ?_, ?_, ?_⟩
  · intro C p ta' tb' s₂ m₂ E' hC ha hn hma hmb hk
    obtain ⟨oC, eC, nC⟩ := LCg.ns_obj hn
    have N7 := news_comp F6 N6 hk hC eC
    have F7 := F6.keeps hk
    clear F6 N6
    refine wpAny_tests_one ?_
    iterate 9 (first | walk1 | (dsimp only; walk1))
    iterate 4 walk1
    refine wpAny_newObj_type ?_
    have kp : ∀ b o, s₂.heap.get? b = some o → (s₂.heap.push { cls := Value.type "list", data := Data.seq (List.toArray [Value.ref rt]) }).get? b = some o := fun b o e => Heap.get?_push_of_some _ e
    have F8 := F7.keeps kp
    have N8 := N7.grown kp
    have hpre : PairsAt (s₂.heap.push { cls := Value.type "list", data := Data.seq (List.toArray [Value.ref rt]) }) s₂.heap.objs.size [(a, b)] :=
      ⟨[rt], ⟨_, Heap.get?_push_size _ rfl, rfl, _, rfl⟩, .cons ta tb (hp.2.at fun o e => F8.keep _ o e) .nil⟩
    clear F7 N7
    generalize s₂.heap.objs.size = D8 at hpre ⊢
    generalize s₂.heap.push _ = H8 at kp F8 N8 hpre ⊢
    walk1
    refine ⟨KX.keeps F8.keep, ?_⟩
    refine Spec.use (spec_keeps w p.1 _ D8 [(a, b)] (by show 1 ≤ 16; decide)) F8 N8 KX T hpre (by show dp + 1 + 1 < _; omega) (by show un + 3 + 100 < _; omega) ?_
    intro v h' tk' F' N' k' hv
    subst hv
    walk1
    exact ⟨rfl, _, _, rfl, fun b o e => k' b o (kp b o e)⟩
  · intro C p ta tb s₂ m₂ E' hC ha hp hn hma hmb hk
    obtain ⟨oC, eC, nC⟩ := LCg.ns_obj hn
    have N7 := news_comp F6 N6 hk hC eC
    have F7 := F6.keeps hk
    clear F6 N6
    k_steps
    · exact Carried.int _ _
    · exact ⟨_, _, rfl, fun _ _ h => h⟩
  · intro D ys h' tk F7 N7 hD hL hPl hC hk
    clear F6 N6
    refine hq _ _ _ F7.keep ?_
    obtain ⟨⟨n, hn⟩, hD2⟩ := hPl
    exact ⟨D, ys, n, rfl, ⟨hD, hn⟩, IntsAre.ofCarried (by rw [brokenOf, List.map_map]; exact hC)⟩
end Mine
end
section
open PySem PySem.W PyProof.Rows
set_option maxRecDepth 100000
namespace Mine
section
variable {R : List (Int × Int)} {S ns : List Int} (hb : Bits ns) (i : Inv 16 R S ns)
include hb i
theorem end_meets {q₁ q₂ : List Int} (p₁ : q₁.Perm (meetsL S)) (s₁ : q₁.Pairwise (· ≤ ·)) (p₂ : q₂.Perm (meetsL ns)) (s₂ : q₂.Pairwise (· ≤ ·)) : q₁ = q₂ := by
  have hbS := i.bits hb
  refine sorted_same (p₁.nodup_iff.mpr (meetsL_good S [15] hbS good15).2) (p₂.nodup_iff.mpr (meetsL_good ns [15] hb good15).2) s₁ s₂ fun x => ?_
  rw [p₁.mem_iff, p₂.mem_iff, mem_meets S hbS, mem_meets ns hb]
  constructor
  · rintro ⟨h, e⟩
    exact ⟨h, (shown_meet hb i h).symm.trans e⟩
  · rintro ⟨h, e⟩
    exact ⟨h, (shown_meet hb i h).trans e⟩
theorem end_keeps {q₂ : List Int} (p₂ : q₂.Perm (meetsL ns)) (s₂ : q₂.Pairwise (· ≤ ·)) : ((rangeInts 0 1 16).filter fun x => (R.filter (brk x)).isEmpty) = q₂ := by
  have hn : (rangeInts 0 1 16).Nodup := by decide
  have hs : (rangeInts 0 1 16).Pairwise (· ≤ ·) := by decide
  have hm : ∀ x : Int, x ∈ rangeInts 0 1 16 ↔ Bit x := by
    intro x
    constructor
    · have h : ∀ x ∈ rangeInts 0 1 16, 0 ≤ x ∧ x < 16 := by decide
      exact h x
    · intro h
      have h2 : ∀ y : Fin 16, (y.val : Int) ∈ rangeInts 0 1 16 := by decide
      obtain ⟨y, rfl⟩ := fin16 h
      exact h2 y
  refine sorted_same (hn.sublist List.filter_sublist) (p₂.nodup_iff.mpr (meetsL_good ns [15] hb good15).2) (hs.sublist List.filter_sublist) s₂ fun x => ?_
  rw [List.mem_filter, hm, p₂.mem_iff, mem_meets ns hb, brk_keeps]
  constructor
  · rintro ⟨h, e⟩
    exact ⟨h, (keeps_iff hb i h).mp e⟩
  · rintro ⟨h, e⟩
    exact ⟨h, (keeps_iff hb i h).mpr e⟩
theorem end_broken {a : Int} (ha : Bit a) : ((brokenOf a (meetL a ns) R).map (·.1)).length ≤ 1 := by
  have e : (brokenOf a (meetL a ns) R).map (·.1) = brokenL (a, meetL a ns) R := by
    unfold brokenOf brokenL
    congr 1
    refine List.filter_congr fun p _ => ?_
    rw [brk_keeps]
  rw [e]
  exact broken_one hb i ha
end
end Mine
end
section
open PySem PySem.W PyProof.Rows
set_option maxRecDepth 100000
namespace Mine
theorem filled_wd : PySem.Challenge.rw_ku0043_01 = PySem.Challenge.rw_ku0043_01 ∧ K = K := by
  k_fill
  exact ⟨rfl, rfl⟩
/-- enumerate of a made list of ints -/
theorem call_enum_made {prog : Program} {w : World} {A : Around} {E : Value → Shared → Prop} {s : Shared} {h₀ : Heap} {L D : Addr} {m : Str → Option Value} {news : List (Addr × Obj)} {vs : List Value} {ns : List Int} {c : Nat} {Q : Value → Shared → Prop}
    (hh : A.handled = none) (F : Fr h₀ L s.heap m) (N : News h₀ L s.heap ((D, W.listOf vs.toArray c) :: news)) (hap : ∀ q ∈ news, D ≠ q.1) (hi : IntsAre vs ns)
    (h : ∀ h' e, Fr h₀ L h' m → News h₀ L h' news → PairSrcL prog w A E h₀ L ItemKind.int ns (.ref e) { s with heap := h' } m news → Q (.ref e) { s with heap := h' }) :
    wpAny (model prog w) A (call (.type "enumerate") [.ref D]) Q E s := by
  have z := N _ (.head _)
  have hls : s.heap.IsList D vs.toArray := ⟨_, z.1, rfl, c, rfl⟩
  have hLs : L < s.heap.objs.size := F.ns.lt
  have hab : h₀.objs.size ≤ L := F.above
  have hl2 : D < s.heap.objs.size := Heap.lt_size z.1
  refine call_enumerate_list hls fun h' he hit hsz hk => ?_
  have F' : Fr h₀ L h' m := ⟨F.ns.keeps hk, fun b o e => hk b o (F.keep b o e), F.above⟩
  have N' : News h₀ L h' news := fun p hp => ⟨hk _ _ (N p (.tail _ hp)).1, (N p (.tail _ hp)).2⟩
  refine h h' _ F' N' fun env hL => ?_
  subst hL
  refine enumSrc (Draws.list (A := A.in1) hh s.heap.objs.size D (Nat.ne_of_lt hl2) vs.toArray) he ⟨hit, hls.at fun o e => hk D o e⟩ (Nat.succ_ne_self _) ?_ (by simp) ?_
    (Heap.get?_none_of_le (Nat.le_trans hab (Nat.le_of_lt (Nat.lt_succ_of_lt hLs)))) (Heap.get?_none_of_le (Nat.le_trans hab (Nat.le_of_lt hLs))) ?_ (by simp [hi.length]) (fun i x hx => (hi.areOf).get i x (by simpa using hx)) F' N'
  · intro hm
    rcases List.mem_cons.mp hm with e | hm
    · exact Nat.succ_ne_self _ e
    · exact Nat.ne_of_gt (Nat.lt_succ_of_lt hl2) (List.mem_singleton.mp hm)
  · intro hm
    rcases List.mem_cons.mp hm with e | hm
    · exact Nat.ne_of_lt (Nat.lt_succ_of_lt hLs) e
    · rcases List.mem_cons.mp hm with e | hm
      · exact Nat.ne_of_lt hLs e
      · exact z.2.1 (List.mem_singleton.mp hm).symm
  · intro b hb q hq e
    have hq1 : q.1 < s.heap.objs.size := Heap.lt_size (N q (.tail _ hq)).1
    rcases List.mem_cons.mp hb with e1 | hb
    · exact Nat.ne_of_gt (Nat.lt_succ_of_lt hq1) (e1.symm.trans e)
    · rcases List.mem_cons.mp hb with e1 | hb
      · exact Nat.ne_of_gt hq1 (e1.symm.trans e)
      · have e2 := List.mem_singleton.mp hb
        exact hap q hq (e2 ▸ e)
set_option maxHeartbeats 4000000
set_option pp.maxSteps 20000
set_option pp.deepTerms false
set_option pp.deepTerms.threshold 6
def DrJ (l : Addr) (m : Str → Option Value) (news : List (Addr × Obj)) : Prop := m "drawn" = some (.ref l) ∧ ∃ us ds k, news = [(l, W.listOf (List.toArray us) k)] ∧ IntsAre us ds ∧ ds.length = 7
theorem drJ_of {l : Addr} {m : Str → Option Value} {us : List Value} {ds : List Int} {k : Nat} (h : m "drawn" = some (.ref l)) (hI : IntsAre us ds) (hz : ds.length = 7) : DrJ l m [(l, W.listOf (List.toArray us) k)] := ⟨h, us, ds, k, rfl, hI, hz⟩
theorem m_is {m : Str → Option Value} {x : Str} {v : Value} (h : m x = some v) : m = fun y => if y = x then some v else m y := by
  funext y
  split
  · rename_i e; rw [e, h]
  · rfl
theorem upd_app {d : Addr} {o o' : Obj} : ∀ {own : List (Addr × Obj)}, (∀ p ∈ own, p.1 ≠ d) → Upd d o o' (own ++ [(d, o)]) (own ++ [(d, o')])
  | [], _ => .head fun _ h => nomatch h
  | p :: r, h => .tail (h p (.head _)) (upd_app fun q hq => h q (.tail _ hq))
/-- the mails are drawn: five sets of four bits, a beginning, a form -/
def DrawnIs (h : Heap) (v : Value) (h' : Heap) : Prop :=
  ∃ a p us ms n b f tb tf k, v = .ref a ∧ Fresh h h' a { cls := .type "tuple", data := .seq #[.ref p, .int b tb, .int f tf] k } ∧ Fresh h h' p (W.listOf (List.toArray us) n) ∧ p ≠ a ∧ IntsAre us ms ∧ Bits ms ∧ ms.length = 5 ∧ (0 ≤ b ∧ b < 5) ∧ 0 ≤ f ∧ f < 540
theorem spec_drawn (w : World) (l : Addr) (ns : List Int) (hz : ¬ 63 < ns.length) : Spec w 166 [.ref l] 1 10 (fun h => IntsAt h l ns) DrawnIs := by
  intro mean mg mb dp un fr gd s Q E tp hp hd hu hq
  obtain ⟨vs, hL, hI⟩ := hp
  have KX : (K w.params).In s.heap := tp.X
  have T := tp.T
  refine enterP (scope := fScope (stAt pw 16)) (params := fArgs (stAt pw 16)) (body := fBody (stAt pw 16)) tp (by omega) rfl rfl (by rfl) (by rfl) (locs (by rfl)) ?_ (by rfl) (by rfl) (by rfl) (by decide +kernel)
  intro h₁ tk F N
  conv in (fBody _) => whnf
  k_steps
  rename_i F N hI0 _ _ hlt
  refine call_enum_made rfl F N (by k_all) hI0 ?_
  intro h₂ e F₂ N₂ S
  clear F N
  dsimp only
  refine (S.at _ rfl) _ _ _ _ (fun _ => DrJ _) ⟨rfl, _, _, _, rfl, (.cons _ _ (.cons _ _ (.cons _ _ (.cons _ _ (.cons _ _ (.cons _ _ (.cons _ _ .nil))))))), rfl⟩ ?_ ?_
  · rintro i a t v m₁ news₁ s₁ own ⟨h, tk, rfl⟩ ha ⟨u, rfl⟩ ⟨hm, us, ds, k, rfl, hI₁, hz₁⟩ hadr hoff F₁ N₁
    rw [m_is hm] at F₁
    dsimp only at F₁ N₁ ⊢
    clear F₂ N₂ S
    k_steps
    have e1 : 0 ≤ (i : Int).fmod 7 := Int.fmod_nonneg_of_pos _ (by decide)
    have e2 : (i : Int).fmod 7 < 7 := Int.fmod_lt_of_pos _ (by decide)
    refine ksa_set F₁ N₁ (upd_app fun p hp => hoff p hp _ (.head _)) hI₁ e1 (by omega) (by omega) ?_
    intro h₃ F₃ N₃ hI₃ hz₃ _
    k_steps
    exact drJ_of rfl hI₃ (by omega)
  · rintro h' tk m' news' F' N' _ ⟨hm, us, ds, k, rfl, hI₁, hz₁⟩
    rw [m_is hm] at F'
    dsimp only at F' N' ⊢
    clear F₂ N₂ S
    k_steps
    rename_i N _
    refine hq _ _ _ (Fr.keep (by assumption)) ⟨_, _, _, _, _, _, _, _, _, _, rfl, Fresh.of N (.head _), Fresh.of N (.tail _ (.head _)), ?_, by assumption, ?_, ?_, ?_, ?_⟩
    · rename_i o _ _ _ _ _ h
      exact fun e => absurd h.1 (by rw [e]; exact Nat.lt_irrefl _)
    · intro x hx
      obtain ⟨y, _, rfl⟩ := List.mem_map.mp hx
      exact ⟨Int.fmod_nonneg_of_pos _ (by decide), Int.fmod_lt_of_pos _ (by decide)⟩
    · rw [List.length_map, List.length_take, hz₁]; rfl
    · exact ⟨Int.fmod_nonneg_of_pos _ (by decide), Int.fmod_lt_of_pos _ (by decide)⟩
    · exact ⟨Int.fmod_nonneg_of_pos _ (by decide), Int.fmod_lt_of_pos _ (by decide)⟩
end Mine
end
section
open PySem PySem.W PyProof.Rows
set_option maxRecDepth 100000
namespace Mine
theorem filled_wl : PySem.Challenge.rw_ku0043_01 = PySem.Challenge.rw_ku0043_01 ∧ K = K := by
  k_fill
  exact ⟨rfl, rfl⟩
set_option maxHeartbeats 4000000
set_option pp.maxSteps 20000
set_option pp.deepTerms false
set_option pp.deepTerms.threshold 6
theorem News.tup {h₀ h h' : Heap} {L : Addr} {m : Str → Option Value} {own news : List (Addr × Obj)} (N : News h₀ L h' news) (F : Fr h₀ L h m) (x : ∀ p ∈ own, Fresh h h' p.1 p.2) : News h₀ L h' (own ++ news) := by
  intro p hp
  rcases List.mem_append.mp hp with hp | hp
  · exact news_fresh N F (x p hp) p (.head _)
  · exact N p hp
theorem led_add {h₀ h h' : Heap} {L a : Addr} {oa : Obj} {m : Str → Option Value} {y z : Addr × Obj} {own news : List (Addr × Obj)} (N : News h₀ L h' news) (F : Fr h₀ L h m) (x : Fresh h h' a oa) (hall : ∀ p ∈ y :: z :: own, Fresh h h' p.1 p.2) : News h₀ L h' ((a, oa) :: y :: z :: (news ++ own)) := by
  intro p hp
  rcases List.mem_cons.mp hp with rfl | hp
  · exact news_fresh N F x _ (.head _)
  · rcases List.mem_cons.mp hp with rfl | hp
    · exact news_fresh N F (hall p (.head _)) p (.head _)
    · rcases List.mem_cons.mp hp with rfl | hp
      · exact news_fresh N F (hall p (.tail _ (.head _))) p (.head _)
      · rcases List.mem_append.mp hp with hp | hp
        · exact N p hp
        · exact news_fresh N F (hall p (.tail _ (.tail _ hp))) p (.head _)
theorem law_walk (w : World) {mean : ExcName → Option Value} {mg mb : Str → Option Value} {dp un : Nat} {fr : Option (List Env)} {gd : Option (List Code)} {h₀ : Heap} {s : Shared} {fa : Addr} {cd : Value}
    (KX : (K w.params).In h₀) (T : Top (viewQ pw) (looseW (viewQ pw) looseL) mean mg mb h₀) {l : Addr} {vs : List Value} {xs : List Int} (hL : h₀.IsList l vs.toArray) (hI : IntsAre vs xs) (hx : ¬ 63 < xs.length)
    (hd : dp + 12 < recursionLimit) (hu : un + 1020 < cLine) {o1 o2 : Obj} (ho1 : ∃ v, o1.data = .cell v) (ho2 : ∃ v, o2.data = .cell v) {m : Str → Option Value} (hm : m "script" = some (.ref l))
    (F : Fr h₀ h₀.objs.size s.heap m) (N : News h₀ h₀.objs.size s.heap [(h₀.objs.size + 1 + 1, o1), (h₀.objs.size + 1, o2)]) :
    wpAny (model pw w) ((Ar dp un fr gd).deeper (envOfC (Str.ofString "law") (fScope (stAt pw 24)) h₀.objs.size fa cd)) (execs (fBody (stAt pw 24)) (envOfC (Str.ofString "law") (fScope (stAt pw 24)) h₀.objs.size fa cd))
      (fun f s' => f = .ret (.bool true) ∧ ∃ h' tk', s' = { s with heap := h', toks := tk' } ∧ ∀ b o, h₀.get? b = some o → h'.get? b = some o) (fun _ _ => False) s := by
  have e₁ : kstB m [("script", Value.ref l)] = m := by
    funext y
    refine kstB_eq (fun p hp => ?_) fun _ => rfl
    rw [List.mem_singleton.mp hp]
    exact hm
  rw [← e₁] at F
  clear e₁ hm
  dsimp only [kstB] at F
  obtain ⟨v1, hv1⟩ := ho1
  obtain ⟨v2, hv2⟩ := ho2
  conv in (fBody _) => whnf
  iterate 9 (first | walk1 | (dsimp only; walk1))
  rename News _ _ _ _ => N5
  rename Fr _ _ _ _ => F5
  refine Spec.use (spec_drawn w l xs hx) F5 N5 KX T ⟨vs, hL.at fun o e => F5.keep _ o e, hI⟩ (by show dp + 1 + 1 < _; omega) (by show un + 3 + 10 < _; omega) ?_
  rintro v h2 tk2 F2 N2 k2 ⟨t, p, us, ms, n, b, f, tb, tf, q, rfl, hft, hfp, hne, hIu, hB, hz, hb, hf⟩
  have hp2 := allNe_of (fresh_ne N5 hfp)
  have ht2 := allNe_of (fresh_ne N5 hft)
  have N6 := news_fresh (news_fresh N2 F5 hfp) F5 hft
  clear F5 N5 N2
  simp only [AllNe] at hp2 ht2
  iterate 24 (first | walk1 | (dsimp only; walk1))
  rename News _ _ _ _ => N9
  rename Fr _ _ _ _ => F9
  replace N9 := News.drop N9
  refine ⟨KX.keeps F9.keep, ?_⟩
  refine Spec.use (spec_explored w p b f tb tf ms hz hB hb hf) F9 N9 KX T ⟨us, N9.isList (.head _), hIu⟩ (by show dp + 1 + 10 < _; omega) (by show un + 3 + 1000 < _; omega) ?_
  rintro v h3 tk3 F3 N3 k3 ⟨t2, r, sh, ts, us2, n', n1, n2, R, S, own, rfl, hft2, hall, hT, hI2, hinv, hRl⟩
  have ht3 := allNe_of (fresh_ne N9 hft2)
  have hr2 := allNe_of (fresh_ne N9 (hall _ (.head _)))
  have hs2 := allNe_of (fresh_ne N9 (hall _ (.tail _ (.head _))))
  have hoff : OwnOff own [h₀.objs.size + 1 + 1, h₀.objs.size + 1] := fun q hq b hb' => by
    have := fresh_ne N9 (hall q (.tail _ (.tail _ hq)))
    simp only [List.mem_cons, List.not_mem_nil, or_false] at hb'
    rcases hb' with rfl | rfl
    · exact Ne.symm (this _ (.tail _ (.head _)))
    · exact Ne.symm (this _ (.tail _ (.tail _ (.head _))))
  simp only [AllNe] at ht3 hr2 hs2
  have N7 := led_add N3 F9 hft2 hall
  clear N9 F9 N3
  dsimp only [List.cons_append, List.nil_append] at N7
  iterate 8 (first | walk1 | (dsimp only; walk1))
  rename News _ _ _ _ => N9
  replace N9 := News.drop N9
  k_steps
  rename News _ _ _ _ => N9
  rename Fr _ _ _ _ => F9
  have hbS : Bits S := hinv.bits hB
  refine Spec.use (spec_meets w p ms hB) F9 N9 KX T ⟨us, N9.isList (.tail _ (.tail _ (.head _))), hIu⟩ (by show dp + 1 + 1 < _; omega) (by show un + 3 + 10 < _; omega) ?_
  rintro v h4 tk4 F4 N4 k4 ⟨cl, us4, n4, q2, rfl, hf4, hI4, hp2, hs4⟩
  have hc2 := allNe_of (fresh_ne N9 hf4)
  have hoc : OwnOff own [cl] := fun q hq b hb' => by
    rw [List.mem_singleton.mp hb']
    exact fresh_ne N9 hf4 q (.tail _ (.tail _ (.tail _ (.tail _ (.tail _ hq)))))
  simp only [AllNe] at hc2
  replace N4 := news_fresh N4 F9 hf4
  clear N9 F9
  k_steps
  rename News _ _ _ _ => N9
  rename Fr _ _ _ _ => F9
  refine Spec.use (spec_meets w sh S hbS) F9 N9 KX T ⟨us2, N9.isList (.tail _ (.tail _ (.head _))), hI2⟩ (by show dp + 1 + 1 < _; omega) (by show un + 3 + 10 < _; omega) ?_
  rintro v h5 tk5 F5 N5 k5 ⟨c5, us5, n5, q1, rfl, hf5, hI5, hp1, hs5⟩
  replace N5 := news_fresh N5 F9 hf5
  clear N9 F9
  have hqq := end_meets hB hinv hp1 hs5 hp2 hs4
  subst hqq
  iterate 4 (first | walk1 | (dsimp only; walk1))
  replace N5 := News.drop N5
  clear hf5 hI5
  iterate 4 (first | walk1 | (dsimp only; walk1))
  rename Fr _ _ _ _ => F6
  rename News _ _ _ _ => N6
  refine comp_range F6 (pz := fun x => (R.filter (brk x)).isEmpty) (d := fun x => .int x) rfl (by rfl) (by decide) (by rfl) (by decide) (by rfl) (by intro _; rfl) ?_
  iterate 7 (first | walk1 | (dsimp only; walk1))
  rename Fr _ _ _ _ => F8
  rename News _ _ _ _ => N8
  rename IsRange _ _ _ _ _ _ _ _ => R8
  refine ⟨_, _, _, _, _, _, _, _, 16, rfl, R8, by decide, by decide, by decide, F8, N8, ?_, ?_, ?_⟩
  · intro C x v s₂ m₂ E' hC hx hi hn hm hk
    obtain ⟨t9, rfl⟩ := ItemKind.int_is hi
    obtain ⟨oC, eC, nC⟩ := LCg.ns_obj hn
    have N7 := news_comp F8 N8 hk hC eC
    have F7 := F8.keeps hk
    clear F8 N8 R8
    refine wpAny_tests_one ?_
    k_steps
    rename News _ _ _ _ => N7
    rename Fr _ _ _ _ => F7
    refine Spec.use (spec_keeps w x _ r R hRl) F7 N7 KX T ⟨ts, N7.isList (.tail _ (.tail _ (.head _))), hT.are fun q hq => N7 q (.tail _ (.tail _ (.tail _ (.tail _ (.tail _ (.tail _ (.tail _ hq))))))) ⟩ (by show dp + 1 + 1 < _; omega) (by show un + 3 + 100 < _; omega) ?_
    intro v h' tk' F' N' k' hv
    subst hv
    walk1
    exact ⟨rfl, _, _, rfl, k'⟩
  · intro C x v s₂ m₂ E' hC hx hi hp hn hm hk
    obtain ⟨t9, rfl⟩ := ItemKind.int_is hi
    obtain ⟨oC, eC, nC⟩ := LCg.ns_obj hn
    have N7 := news_comp F8 N8 hk hC eC
    have F7 := F8.keeps hk
    clear F8 N8 R8
    k_steps
    all_goals first | exact Carried.int _ _ | exact ⟨_, _, rfl, fun _ _ h => h⟩
  · intro D ys h' tk F7 N7 hD hLD hPl hC
    clear F8 N8 R8
    obtain ⟨nD, N6⟩ := plain_news hPl F7 N7 hD
    clear N7 hPl hLD
    have hI6 : IntsAre ys _ := IntsAre.ofCarried hC
    rw [end_keeps hB hinv hp2 hs4] at hI6
    clear hC
    iterate 6 (first | walk1 | (dsimp only; walk1))
    replace N6 := News.drop N6
    clear hI6 hD
    iterate 2 (first | walk1 | (dsimp only; walk1))
    rename Fr _ _ _ _ => F6
    rename News _ _ _ _ => N6
    have hall : R.filter (fun _ => true) = R := List.filter_eq_self.mpr fun _ _ => rfl
    refine comp_pairs F6 (pz := fun _ => true) (d := fun p => .int p.2) rfl (by rfl) (by decide) (by rfl) (by decide) (by rfl) (by rfl) (by decide) (by intro _; rfl) ?_
    iterate 1 (first | walk1 | (dsimp only; walk1))
    rename Fr _ _ _ _ => F8
    rename News _ _ _ _ => N8
    refine ⟨_, r, R, rfl, ⟨ts, N8.isList (.tail _ (.head _)), hT.are fun q hq => N8 q (.tail _ (.tail _ (.tail _ (.tail _ (.tail _ (.tail _ hq))))))⟩, Nat.le_trans hRl (by decide), F8, N8, ?_, ?_, ?_⟩
    · intro C pr ta' tb' s₂ m₂ E' hC ha hn hma hmb hk
      exact wpAny_tests_nil ⟨rfl, _, _, rfl, fun _ _ h => h⟩
    · intro C pr ta' tb' s₂ m₂ E' hC ha hp hn hma hmb hk
      obtain ⟨oC, eC, nC⟩ := LCg.ns_obj hn
      have N7 := news_comp F8 N8 hk hC eC
      have F7 := F8.keeps hk
      clear F8 N8
      k_steps
      all_goals first | exact Carried.int _ _ | exact ⟨_, _, rfl, fun _ _ h => h⟩
    · intro D7 ys7 h7 tk7 F7 N7 hD hLD hPl hC hk
      clear F8 N8
      obtain ⟨nD, N6⟩ := plain_news hPl F7 N7 hD
      rw [hall] at hC
      have hI7 : IntsAre ys7 (R.map (·.2)) := IntsAre.ofCarried (by rw [List.map_map]; exact hC)
      have hne7 := allNe_of hPl.2
      clear N7 hPl hLD hC hD hk
      refine comp_pairs F7 (pz := fun _ => true) (d := fun p => .int (meetL p.1 ms)) rfl (by rfl) (by decide) (by rfl) (by decide) (by rfl) (by rfl) (by decide) (by intro _; rfl) ?_
      iterate 1 (first | walk1 | (dsimp only; walk1))
      rename Fr _ _ _ _ => F8
      rename News _ _ _ _ => N8
      refine ⟨_, r, R, rfl, ⟨ts, N8.isList (.tail _ (.tail _ (.head _))), hT.are fun q hq => N8 q (.tail _ (.tail _ (.tail _ (.tail _ (.tail _ (.tail _ (.tail _ hq)))))))⟩, Nat.le_trans hRl (by decide), F8, N8, ?_, ?_, ?_⟩
      · intro C pr ta' tb' s₂ m₂ E' hC ha hn hma hmb hk
        exact wpAny_tests_nil ⟨rfl, _, _, rfl, fun _ _ h => h⟩
      · intro C pr ta' tb' s₂ m₂ E' hC ha hp hn hma hmb hk
        obtain ⟨oC, eC, nC⟩ := LCg.ns_obj hn
        have N7 := news_comp F8 N8 hk hC eC
        have F7 := F8.keeps hk
        clear F8 N8
        k_steps
        rename News _ _ _ _ => N7
        rename Fr _ _ _ _ => F7
        refine Spec.use (spec_meet w pr.1 _ p ms) F7 N7 KX T ⟨us, N7.isList (.tail _ (.tail _ (.tail _ (.tail _ (.tail _ (.head _)))))), hIu⟩ (by show dp + 1 + 1 < _; omega) (by show un + 3 + 10 < _; omega) ?_
        rintro v h' tk' F' N' k' ⟨t', rfl⟩
        exact ⟨Carried.int _ _, _, _, rfl, k'⟩
      · intro D8 ys8 h8 tk8 F7 N7 hD hLD hPl hC hk
        clear F8 N8
        obtain ⟨nD8, N6⟩ := plain_news hPl F7 N7 hD
        rw [hall] at hC
        have hI8 : IntsAre ys8 (R.map (·.2)) := IntsAre.ofCarried (by rw [end_right hinv, List.map_map]; exact hC)
        clear N7 hPl hLD hC hD hk
        iterate 6 (first | walk1 | (dsimp only; walk1))
        replace N6 := News.drop (News.drop N6)
        clear hI8 hI7 hne7
        iterate 5 (first | walk1 | (dsimp only; walk1))
        rename Fr _ _ _ _ => F6
        rename News _ _ _ _ => N6
        refine comp_range F6 (pz := fun _ => true) (d := fun x => .int (((brokenOf x (meetL x ms) R).map (·.1)).length : Int)) rfl (by rfl) (by decide) (by rfl) (by decide) (by rfl) (by intro _; rfl) ?_
        iterate 7 (first | walk1 | (dsimp only; walk1))
        rename Fr _ _ _ _ => F8
        rename News _ _ _ _ => N8
        rename IsRange _ _ _ _ _ _ _ _ => R8
        refine ⟨_, _, _, _, _, _, _, _, 16, rfl, R8, by decide, by decide, by decide, F8, N8, ?_, ?_, ?_⟩
        · intro C x v s₂ m₂ E' hC hx hi hn hm hk
          exact wpAny_tests_nil ⟨rfl, _, _, rfl, fun _ _ h => h⟩
        · intro C x v s₂ m₂ E' hC hx hi hp hn hm hk
          obtain ⟨t9, rfl⟩ := ItemKind.int_is hi
          obtain ⟨oC, eC, nC⟩ := LCg.ns_obj hn
          have N7 := news_comp F8 N8 hk hC eC
          have F7 := F8.keeps hk
          clear F8 N8 R8
          k_steps
          rename News _ _ _ _ => N7
          rename Fr _ _ _ _ => F7
          refine Spec.use (spec_meet w x _ p ms) F7 N7 KX T ⟨us, N7.isList (.tail _ (.tail _ (.tail _ (.tail _ (.head _))))), hIu⟩ (by show dp + 1 + 1 < _; omega) (by show un + 3 + 10 < _; omega) ?_
          rintro v h' tk' F' N' k' ⟨t', rfl⟩
          iterate 1 (first | walk1 | (dsimp only; walk1))
          refine wpAny_newTuple ?_
          have kp : ∀ b o, h'.get? b = some o → (h'.push { cls := Value.type "tuple", data := Data.seq (List.toArray [Value.int x t9, Value.int (meetL x ms) t']) }).get? b = some o := fun b o e => Heap.get?_push_of_some _ e
          have F9 := F'.keeps kp
          have N9 := N'.grown kp
          have hT9 : (h'.push { cls := Value.type "tuple", data := Data.seq (List.toArray [Value.int x t9, Value.int (meetL x ms) t']) }).IsTuple h'.objs.size #[Value.int x t9, Value.int (meetL x ms) t'] := ⟨_, Heap.get?_push_size _ rfl, rfl, _, rfl⟩
          clear F' N'
          dsimp only
          generalize h'.objs.size = D9 at hT9 ⊢
          generalize h'.push _ = H9 at kp F9 N9 hT9 ⊢
          iterate 4 (first | walk1 | (dsimp only; walk1))
          refine Spec.use (spec_broken w x (meetL x ms) D9 r _ _ R hRl) F9 N9 KX T ⟨⟨ts, N9.isList (.tail _ (.tail _ (.head _))), hT.are fun q hq => N9 q (.tail _ (.tail _ (.tail _ (.tail _ (.tail _ (.tail _ (.tail _ hq))))))) ⟩, hT9⟩ (by show dp + 1 + 2 < _; omega) (by show un + 3 + 120 < _; omega) ?_
          rintro v h10 tk10 F10 N10 k10 ⟨D, us9, n9, rfl, hf9, hI9⟩
          iterate 1 (first | walk1 | (dsimp only; walk1))
          have hlen : ((brokenOf x (meetL x ms) R).map (·.1)).length ≤ 16 := by
            rw [List.length_map]
            exact Nat.le_trans (List.length_filter_le _ _) hRl
          refine len_is ⟨_, hf9.2, rfl, _, rfl⟩ (by rw [List.size_toArray, hI9.length]) (by omega) ?_
          intro t11 k11
          exact ⟨Carried.int _ _, _, _, rfl, fun b o e => k10 b o (kp b o (k' b o e))⟩
        · intro D10 ys10 h10 tk10 F7 N7 hD hLD hPl hC
          clear F8 N8 R8
          have hI10 : IntsAre ys10 ((rangeInts 0 1 16).map fun x => (((brokenOf x (meetL x ms) R).map (·.1)).length : Int)) := IntsAre.ofCarried (by rw [List.map_map]; exact hC)
          clear hC
          iterate 1 (first | walk1 | (dsimp only; walk1))
          rename Fr _ _ _ _ => F7
          rename News _ _ _ _ => N7
          refine max_list_N rfl F7 N7 hLD hI10 (by rw [List.length_map]; decide) ?_
          intro h11 M t11 tk11 F11 N11 hM _
          have hM1 : M ≤ 1 := by
            obtain ⟨x, hx, rfl⟩ := List.mem_map.mp hM
            have h16 : ∀ x ∈ rangeInts 0 1 16, 0 ≤ x ∧ x < 16 := by decide
            have := end_broken hB hinv (h16 x hx)
            exact_mod_cast this
          clear F7 N7
          k_steps
          rw [decide_eq_true hM1]
end Mine
end
open PySem PySem.W PyProof.Rows
set_option maxRecDepth 100000
set_option pp.maxSteps 20000
set_option pp.deepTerms false
set_option pp.deepTerms.threshold 4
theorem Mine.said_ok : PySem.Challenge.rw_ku0043_01.wellSaid = true := by
  rw [PySem.W.Fast.te9446332074065402090]
  delta PySem.W.Fast.tw9446332074065402090
  repeat' with_reducible refine look_both ?_ ?_
  all_goals try (delta PySem.W.Fast.tw17960256430627541270; with_reducible refine look_both ?_ ?_)
  all_goals (repeat' with_reducible refine look_both ?_ ?_)
  all_goals try (delta PySem.W.Fast.tw2436336058641802641; with_reducible refine look_both ?_ ?_)
  all_goals (repeat' with_reducible refine look_both ?_ ?_)
  all_goals try (delta PySem.W.Fast.tw12908688711261696721; with_reducible refine look_both ?_ ?_)
  all_goals (repeat' with_reducible refine look_both ?_ ?_)
  all_goals decide +kernel
local macro_rules
  | `(tactic| k_qdec) => `(tactic| decide +kernel)
set_option maxHeartbeats 8000000 in
theorem PySem.Challenge.cw_ku0043_01_holds : PySem.Challenge.rw_ku0043_01.Holds := by
  w_on
  refine holds_law Mine.said_ok fun _ => ?_
  refine holds_open (q := Mine.viewQ PySem.Challenge.pw_ku0043_01) (loose := Mine.looseL) (Xt := Mine.XtQ PySem.Challenge.pw_ku0043_01) (XP := XL (Mine.viewQ PySem.Challenge.pw_ku0043_01) []) (Yf := Hook.obs (kHook Mine.K Mine.kAddrs Mine.k_addrs)) (Ya := Hook.val (kHook Mine.K Mine.kAddrs Mine.k_addrs)) (YP := Hook.says (kHook Mine.K Mine.kAddrs Mine.k_addrs)) (N := 100000) Mine.left_pw (Hook.of (kHook Mine.K Mine.kAddrs Mine.k_addrs)) (Hook.keeps (kHook Mine.K Mine.kAddrs Mine.k_addrs)) (fun s e => xl_of s (Bool.and_eq_true_iff.mp e).1) XL.keeps (by rfl) (by rfl) (by rfl) (fun s e => recFacts_of (Bool.and_eq_true_iff.mp e).2) (by rfl) (by first | assumption | decide +kernel) (by decide +kernel) ⟨rfl, rfl, rfl, rfl, rfl, by decide +kernel⟩ ?hw ?hc
  case hw => w_witness2
  w_strict k_go0
  rename (Mine.K _).In _ => KX
  rename Top _ _ _ _ _ _ => T
  rename IntsAre _ _ => hI
  rename Fr _ _ _ _ => F
  rename News _ _ _ _ => N
  rename Heap.IsList _ _ _ => hL
  rename ¬ _ < _ => hx
  rename _ = (#[] : Array _) => hg
  refine wpAny_mono (Mine.law_walk (dp := 1 + claimMargin) (un := 4) (fr := some []) (gd := some []) _ KX T hL hI (by omega) (by decide) (by decide) ⟨_, by assumption⟩ ⟨_, by assumption⟩ (by rfl) F N) (fun f s' h => ?_) (fun e s' h => h.elim)
  obtain ⟨rfl, h', tk', rfl, kp⟩ := h
  refine ⟨.inl ⟨_, .bool true, [], rfl, fun _ => rfl, .bool true, ?_, unshared_nil⟩, kp, rfl, hg⟩
  refine' postW_of ?hs ?hv ?he
  case hs => o_shape
  case hv => wtm_val
  case he => first | w_fin | rfl | decide
