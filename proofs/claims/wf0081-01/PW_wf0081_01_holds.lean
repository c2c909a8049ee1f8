import PyProof.Rows.All
import Wide.All
import OpenK.AllK
import Wide.FinOn
import PySem.Challenge.RW_wf0081_01
set_option Elab.async false
set_option maxRecDepth 100000
set_option linter.all false
/-! part HdA -/
namespace Mine
open PySem PySem.W PyProof.Rows PySem.Calls

noncomputable abbrev pw : Program := PySem.Challenge.pw_wf0081_01
noncomputable def env0 : Env := { scope := pw.main.scope, locals := mainNs, globals := mainNs, cells := [], code := .ref 13, frame := some 14 }
noncomputable abbrev cB : Code := .body (behindTheImports pw) env0
noncomputable def p0 : Pos := ⟨0, 0, 0, 0⟩
noncomputable abbrev B0 : List Frame := [topFrame p0]
noncomputable abbrev an : Option Value := some (.ref 6)

section go
variable {w : World} {α β : Type}

theorem topGo_add : ∀ {n m : Nat} {s s1 : Shared} {t t1 : Thread} {r : Shared × Thread}, topGo treeTable pw w 11 an n s t = some (s1, t1) →
    topGo treeTable pw w 11 an m s1 t1 = some r → topGo treeTable pw w 11 an (n + m) s t = some r
  | 0, m, s, s1, t, t1, r, h, k => by
    obtain ⟨rfl, rfl⟩ : s = s1 ∧ t = t1 := by simpa [topGo] using h
    rw [Nat.zero_add]; exact k
  | n + 1, m, s, s1, t, t1, r, h, k => by
    rw [show n + 1 + m = n + m + 1 by omega]
    unfold topGo at h ⊢
    cases ht : through t with
    | true => rw [ht] at h; cases h
    | false =>
      rw [ht] at h
      cases hk : stepOk 11 an t with
      | false => rw [hk] at h; cases h
      | true =>
        rw [hk] at h
        cases hs : step (denote treeTable) pw w s t with
        | halt o s₂ => rw [hs] at h; cases h
        | go s₂ t₂ => rw [hs] at h; exact topGo_add h k

/-- the tree m, run alone at the top from s, gives a and s' -/
noncomputable def Go (w : World) (c : Nat) (m : Sem α) (s : Shared) (p : Pos) (a : α) (s' : Shared) (p' : Pos) : Prop :=
  ∃ n, n ≤ c ∧ ∀ (K : α → Sem Fin) (H : Value → Sem Fin) (gd : Bool → Bool) (lv : List Value → List Value),
    topGo treeTable pw w 11 an n s ⟨m.wrap K H gd lv, cB, p, B0⟩ = some (s', ⟨K a, cB, p', B0⟩)

theorem Go.le {m : Sem α} {s s1 : Shared} {p p1 : Pos} {a : α} {c c' : Nat} (h : Go w c m s p a s1 p1) (hc : c ≤ c') : Go w c' m s p a s1 p1 :=
  ⟨h.choose, Nat.le_trans h.choose_spec.1 hc, h.choose_spec.2⟩
theorem Go.pure {a : α} {s : Shared} {p : Pos} : Go w 0 (Pure.pure a : Sem α) s p a s p := ⟨0, Nat.le_refl _, fun _ _ _ _ => rfl⟩
theorem Go.bind {m : Sem α} {f : α → Sem β} {s s1 s2 : Shared} {p p1 p2 : Pos} {a : α} {b : β} {c c' : Nat} (h : Go w c m s p a s1 p1) (k : Go w c' (f a) s1 p1 b s2 p2) : Go w (c + c') (m >>= f) s p b s2 p2 := by
  obtain ⟨n, hn, hn'⟩ := h
  obtain ⟨m', hm, hm'⟩ := k
  refine ⟨n + m', Nat.add_le_add hn hm, fun K H gd lv => ?_⟩
  rw [Sem.bind_eq_wrap', Sem.wrap_wrap]
  exact topGo_add (hn' _ _ _ _) (hm' K H gd lv)
theorem Go.bind0 {m : Sem α} {f : α → Sem β} {s s1 s2 : Shared} {p p1 p2 : Pos} {a : α} {b : β} {c : Nat} (h : Go w c m s p a s1 p1) (k : Go w 0 (f a) s1 p1 b s2 p2) : Go w c (m >>= f) s p b s2 p2 := Go.bind h k
theorem Go.keep {vs : List Value} {m : Sem α} {s s1 : Shared} {p p1 : Pos} {a : α} {c : Nat} (h : Go w c m s p a s1 p1) : Go w c (m.keep vs) s p a s1 p1 := by
  obtain ⟨n, hc, hn⟩ := h
  refine ⟨n, hc, fun K H gd lv => ?_⟩
  rw [Sem.keep_eq_wrap, Sem.wrap_wrap]
  exact hn _ _ _ _
theorem Go.holding {vs : List Value} {m : Sem α} {s s1 : Shared} {p p1 : Pos} {a : α} {c : Nat} (h : Go w c m s p a s1 p1) : Go w c (PySem.holding vs m) s p a s1 p1 := by
  unfold PySem.holding
  split
  · exact h
  · exact h.keep
theorem Go.onRaise {m : Sem α} {e : Value → Sem Unit} {s s1 : Shared} {p p1 : Pos} {a : α} {c : Nat} (h : Go w c m s p a s1 p1) : Go w c (m.onRaise e) s p a s1 p1 := by
  obtain ⟨n, hc, hn⟩ := h
  refine ⟨n, hc, fun K H gd lv => ?_⟩
  rw [Sem.onRaise_eq_wrap, Sem.wrap_wrap]
  exact hn _ _ _ _
theorem Go.one {m : Sem α} {s s1 : Shared} {p p1 : Pos} {a : α} (h : ∀ (K : α → Sem Fin) (H : Value → Sem Fin) (gd : Bool → Bool) (lv : List Value → List Value), stepOk 11 an ⟨m.wrap K H gd lv, cB, p, B0⟩ = true ∧ step (denote treeTable) pw w s ⟨m.wrap K H gd lv, cB, p, B0⟩ = .go s1 ⟨K a, cB, p1, B0⟩) : Go w 1 m s p a s1 p1 :=
  ⟨1, Nat.le_refl _, fun K H gd lv => by
    obtain ⟨h1, h2⟩ := h K H gd lv
    show (match false with | true => none | false => match stepOk 11 an _ with | false => none | true => match step (denote treeTable) pw w s _ with | .go s' t' => topGo treeTable pw w 11 an 0 s' t' | .halt _ _ => none) = _
    rw [h1, h2]; rfl⟩
theorem Go.load {a : Addr} {part : Option Value} {o : Obj} {s : Shared} {p : Pos} (h : s.heap.get? a = some o) : Go w 1 (loadPart a part) s p o s p :=
  Go.one fun K H gd lv => ⟨rfl, by
    obtain ⟨heap, gens, drawn, toks, os⟩ := s
    show (match heap.get? a with | some o => Step.go _ _ | none => _) = _
    rw [show heap.get? a = some o from h]; rfl⟩
theorem Go.load' {a : Addr} {o : Obj} {s : Shared} {p : Pos} (h : s.heap.get? a = some o) : Go w 1 (PySem.load a) s p o s p := Go.load (part := none) h
theorem Go.update {a : Addr} {part : Option Value} {f : Obj → Obj} {o : Obj} {s : Shared} {p : Pos} (h : s.heap.get? a = some o) (ha : Nat.ble 11 a = true) : Go w 1 (updatePart a part f) s p () { s with heap := s.heap.update a f } p :=
  Go.one fun K H gd lv => ⟨by
      show (true && (Nat.ble 11 a || a == mainNs || a == cStatics || an == some (.ref a))) = true
      rw [ha]; rfl, by
    obtain ⟨heap, gens, drawn, toks, os⟩ := s
    show (if (heap.get? a).isSome then Step.go _ _ else _) = _
    rw [show heap.get? a = some o from h]; rfl⟩
theorem Go.alloc {o : Obj} {s : Shared} {p : Pos} : Go w 1 (PySem.alloc o) s p s.heap.objs.size { s with heap := s.heap.push o } p := Go.one fun _ _ _ _ => ⟨rfl, rfl⟩
theorem Go.rule {t : String} {s : Shared} {p : Pos} : Go w 1 (PySem.rule t) s p () s p := Go.one fun _ _ _ _ => ⟨rfl, rfl⟩
theorem Go.standAt {q : Pos} {s : Shared} {p : Pos} : Go w 1 (PySem.standAt q) s p () s q := Go.one fun _ _ _ _ => ⟨rfl, rfl⟩
theorem Go.fresh {s : Shared} {p : Pos} : Go w 1 PySem.fresh s p s.toks { s with toks := s.toks + 1 } p := Go.one fun _ _ _ _ => ⟨rfl, rfl⟩
theorem Go.mkInt {i : Int} {s : Shared} {p : Pos} : Go w 1 (PySem.mkInt i) s p (.int i s.toks) { s with toks := s.toks + 1 } p := Go.one fun _ _ _ _ => ⟨rfl, rfl⟩
theorem Go.mkText {x : Str} {s : Shared} {p : Pos} : Go w 1 (PySem.mkText x) s p (.str x s.toks) { s with toks := s.toks + 1 } p := Go.one fun _ _ _ _ => ⟨rfl, rfl⟩
theorem Go.top {m : Sem α} {s s' : Shared} {p p' : Pos} {a : α} {c : Nat} (h : Go w c m s p a s' p') {K : α → Sem Fin} {H : Value → Sem Fin} {gd : Bool → Bool} {lv : List Value → List Value} {N : Nat} {r : Shared}
    (k : topRun treeTable pw w 11 an N s' ⟨K a, cB, p', B0⟩ = some r) : topRun treeTable pw w 11 an (c + N) s ⟨m.wrap K H gd lv, cB, p, B0⟩ = some r := by
  obtain ⟨n, hn, hg⟩ := h
  have := topRun_mono (c - n) _ _ _ _ (go_top (hg K H gd lv) k)
  rwa [show n + N + (c - n) = c + N by omega] at this
end go
end Mine
/-! part HdB -/
namespace Mine
open PySem PySem.W PyProof.Rows PySem.Calls
section
variable {w : World} {p : Pos}

theorem hash_w (k : Int) (t : Tok) (hp : Heap) (gs : Array GenState) (d : Drawn) (tk : Nat) (os : OsState) (p : Pos) (K : Int → Sem Fin) (H : Value → Sem Fin) (gd : Bool → Bool) (lv : List Value → List Value) (w : World) :
    topGo treeTable pw w 11 an 5 ⟨hp, gs, d, tk, os⟩ ⟨(pyHash (.int k t)).wrap K H gd lv, cB, p, B0⟩
      = some (⟨hp, gs, d, tk + 1, os⟩, ⟨(pyHashByItsType.reduced (rawHash k)).wrap K H gd lv, cB, p, B0⟩) :=
  byRow2 "special-get-raises" (P := fun w => topGo treeTable pw w 11 an 5 ⟨hp, gs, d, tk, os⟩ ⟨(pyHash (.int k t)).wrap K H gd lv, cB, p, B0⟩
      = some (⟨hp, gs, d, tk + 1, os⟩, ⟨(pyHashByItsType.reduced (rawHash k)).wrap K H gd lv, cB, p, B0⟩)) (fun w => by kernel_rfl) (fun w => by kernel_rfl) w

theorem rawHash_small {k : Int} (h0 : 0 ≤ k) (h1 : k < 2 ^ 60) : rawHash k = k := by
  have e2 : ((k.natAbs : Int) % ((2 ^ 61 - 1 : Nat) : Int)) = k := by
    rw [Int.natAbs_of_nonneg h0]
    exact Int.emod_eq_of_lt h0 (by omega)
  show (if (if k < 0 then -((k.natAbs : Int) % ((2 ^ 61 - 1 : Nat) : Int)) else ((k.natAbs : Int) % ((2 ^ 61 - 1 : Nat) : Int))) == -1 then -2 else _) = k
  rw [e2, if_neg (show ¬ k < 0 by omega), if_neg (by simp; omega)]

theorem Go.hash {k : Int} {t : Tok} {s : Shared} (h0 : 0 ≤ k) (h1 : k < 2 ^ 60) : Go w 5 (pyHash (.int k t)) s p k { s with toks := s.toks + 1 } p := by
  obtain ⟨hp, gs, d, tk, os⟩ := s
  refine ⟨5, Nat.le_refl _, fun K H gd lv => ?_⟩
  rw [hash_w, rawHash_small h0 h1]
  unfold pyHashByItsType.reduced
  rw [if_pos (by simp; omega), if_neg (by simp; omega)]
  rfl

noncomputable def placesNone (es : List DictEntry) (h : Int) : Prop := ∀ e ∈ es, e.hash < h
theorem places_nil {es : List DictEntry} {h : Int} (q : placesNone es h) : placesWithHash es.toArray.size (fun i => es.toArray[i]?.map (·.hash)) h = [] := by
  unfold placesWithHash
  rw [List.filter_eq_nil_iff]
  intro i _ e
  simp only [beq_iff_eq, Option.map_eq_some_iff] at e
  obtain ⟨x, hx, hh⟩ := e
  have := q x (by
    have := Array.mem_of_getElem? hx
    simpa using this)
  omega

theorem Go.find {d : Addr} {k h : Int} {t : Tok} {s : Shared} {es : List DictEntry} {c : Value} {dd : Option Addr} {n : Nat} {sl : Array (Option Value)} (hd : s.heap.get? d = some ⟨c, dd, .dict es.toArray n, sl⟩) (q : placesNone es h) :
    Go w 1 (dictFind d (.int k t) h) s p none s p := by
  unfold dictFind
  refine Go.holding ?_
  refine Go.le (Go.bind (c := 1) (c' := 0) (a := es.toArray) (s1 := s) (p1 := p) ?_ ?_) (Nat.le_refl _)
  · unfold dictEntries
    exact Go.bind0 (Go.load hd) Go.pure
  · dsimp only
    rw [places_nil q]
    rw [if_pos (show (Value.int k t :: List.filterMap _ []).all carriedByValue = true from rfl)]
    exact Go.pure

theorem Go.setKeys {d : Addr} {f : Array DictEntry → Array DictEntry} {part : Option Value} {s : Shared} {es : Array DictEntry} {c : Value} {dd : Option Addr} {n : Nat} {sl : Array (Option Value)} (hd : s.heap.get? d = some ⟨c, dd, .dict es n, sl⟩) (ha : Nat.ble 11 d = true)
    (hz : (Data.dict (f es) (n + 1)).pastItsLine = none) :
    Go w 3 (updateDictKeys d f part) s p () { s with heap := s.heap.update d (Obj.mapDictKeys f) } p := by
  unfold updateDictKeys
  refine Go.le (Go.bind (c := 1) (c' := 2) (Go.load hd) ?_) (Nat.le_refl _)
  refine Go.le (Go.bind (c := 1) (c' := 1) (Go.update hd ha) ?_) (Nat.le_refl _)
  unfold lookBehind
  refine Go.bind (c := 1) (c' := 0) (Go.load (o := ⟨c, dd, .dict (f es) (n + 1), sl⟩) ?_) ?_
  · exact Heap.get?_update_self _ hd rfl
  · dsimp only
    rw [hz]
    exact Go.pure

/-- a plain dict of these entries -/
noncomputable def dO (es : List DictEntry) : Obj := ⟨.type "dict", none, .dict es.toArray es.length, #[]⟩
theorem dO_push (es : List DictEntry) (e : DictEntry) : (dO es).mapDictKeys (·.push e) = dO (es ++ [e]) := by
  simp [dO, Obj.mapDictKeys]

theorem Go.push {d : Addr} {e : DictEntry} {part : Option Value} {s : Shared} {es : List DictEntry} (hd : s.heap.get? d = some (dO es)) (ha : Nat.ble 11 d = true) (hz : es.length < 100000) :
    Go w 3 (updateDictKeys d (·.push e) part) s p () { s with heap := s.heap.update d (Obj.mapDictKeys (·.push e)) } p :=
  Go.setKeys hd ha (by
    show (if _ then _ else _) = none
    rw [if_neg]
    simp [sizeLine]; omega)

theorem Go.put {d : Addr} {k h : Int} {t : Tok} {v : Value} {s : Shared} {es : List DictEntry} (hd : s.heap.get? d = some (dO es)) (ha : Nat.ble 11 d = true) (hz : es.length < 100000) (q : placesNone es h) :
    Go w 4 (dictPut d h (.int k t) v) s p () { s with heap := s.heap.update d (Obj.mapDictKeys (·.push ⟨h, .int k t, v⟩)) } p := by
  unfold dictPut
  exact Go.le (Go.bind (Go.find hd q) (Go.push hd ha hz)) (Nat.le_refl _)
theorem Go.set {d : Addr} {k : Int} {t : Tok} {v : Value} {s : Shared} {es : List DictEntry} (h0 : 0 ≤ k) (h1 : k < 2 ^ 60) (hd : s.heap.get? d = some (dO es)) (ha : Nat.ble 11 d = true) (hz : es.length < 100000) (q : placesNone es k) :
    Go w 10 (dictSet d (.int k t) v) s p () { s with heap := s.heap.update d (Obj.mapDictKeys (·.push ⟨k, .int k t, v⟩)), toks := s.toks + 1 } p := by
  unfold dictSet
  refine Go.holding (Go.le (Go.bind (c := 5) (c' := 5) (Go.hash h0 h1) ?_) (Nat.le_refl _))
  unfold dictSetHashed
  refine Go.holding (Go.le (Go.bind (c := 1) (c' := 4) (Go.find hd q) ?_) (Nat.le_refl _))
  exact Go.le (Go.bind Go.rule (Go.push hd ha hz)) (Nat.le_refl _)
end

/-- the heap of the base and these objects behind it -/
noncomputable def hpOf (b : Heap) (l : List Obj) : Heap := ⟨b.objs ++ l.toArray, b.life⟩
theorem hpOf_nil (b : Heap) : hpOf b [] = b := by simp [hpOf]
theorem hpOf_size (b : Heap) (l : List Obj) : (hpOf b l).objs.size = b.objs.size + l.length := by simp [hpOf]
theorem hpOf_push (b : Heap) (l : List Obj) (o : Obj) : (hpOf b l).push o = hpOf b (l ++ [o]) := by
  simp [hpOf, Heap.push]
theorem hpOf_get {b : Heap} {l : List Obj} {i : Nat} {o : Obj} (h : l[i]? = some o) (hf : o.isFreed = false) : (hpOf b l).get? (b.objs.size + i) = some o := by
  have e : (hpOf b l).objs[b.objs.size + i]? = some o := by
    simp [hpOf, Array.getElem?_append, h]
  unfold Heap.get?
  rw [e]
  obtain ⟨c, d, dt, sl⟩ := o
  cases dt <;> first | rfl | cases hf
theorem hpOf_update (b : Heap) (l : List Obj) (i : Nat) (f : Obj → Obj) : (hpOf b l).update (b.objs.size + i) f = hpOf b (l.modify i f) := by
  have : (b.objs ++ l.toArray).modify (b.objs.size + i) f = b.objs ++ (l.modify i f).toArray := by
    apply Array.ext_getElem?
    intro j
    simp only [Array.getElem?_modify, Array.getElem?_append, List.getElem?_toArray, List.getElem?_modify]
    by_cases hj : j < b.objs.size
    · simp only [if_pos hj]; rw [if_neg (by omega)]
    · simp only [if_neg hj]
      by_cases e : b.objs.size + i = j
      · have e' : i = j - b.objs.size := by omega
        simp [e']; omega
      · have e' : ¬ i = j - b.objs.size := by omega
        simp [e, e']
  show Heap.mk _ _ = Heap.mk _ _
  exact congrArg (Heap.mk · b.life) this

theorem modify_snoc {α : Type} (l : List α) (o : α) (f : α → α) : (l ++ [o]).modify l.length f = l ++ [f o] := by
  induction l with
  | nil => rfl
  | cons a l ih => simpa using ih
noncomputable abbrev KS := List (Int × Str)
noncomputable def prS (q : Pos) (x : Int × Str) : Sem Value × Sem Value := (mkInt x.1, do let v ← mkText x.2; standAt q; pure v)
noncomputable def entsL : KS → Tok → List DictEntry
  | [], _ => []
  | (k, x) :: r, t => ⟨k, .int k t, .str x (t + 1)⟩ :: entsL r (t + 3)
theorem entsL_length : ∀ (l : KS) (t : Tok), (entsL l t).length = l.length
  | [], _ => rfl
  | _ :: r, t => by simp [entsL, entsL_length r]
theorem entsL_hash : ∀ (l : KS) (t : Tok), (entsL l t).map (·.hash) = l.map (·.1)
  | [], _ => rfl
  | _ :: r, t => by simp [entsL, entsL_hash r]
noncomputable def entsS : KS → Tok → List DictEntry
  | [], _ => []
  | (k, x) :: r, t => ⟨k, .int k t, .str x (t + 1)⟩ :: entsS r (t + 2)
theorem entsS_length : ∀ (l : KS) (t : Tok), (entsS l t).length = l.length
  | [], _ => rfl
  | _ :: r, t => by simp [entsS, entsS_length r]
theorem entsS_hash : ∀ (l : KS) (t : Tok), (entsS l t).map (·.hash) = l.map (·.1)
  | [], _ => rfl
  | _ :: r, t => by simp [entsS, entsS_hash r]
/-- the keys rise, from above those given -/
noncomputable def rises : Int → List Int → Prop
  | _, [] => True
  | a, k :: r => a < k ∧ k < 2 ^ 60 ∧ rises k r

section
variable {w : World} {gs : Array GenState} {dr : Drawn} {os : OsState}
theorem setAt {b : Heap} {l : List Obj} {es : List DictEntry} {e : DictEntry} :
    (hpOf b (l ++ [dO es])).update (b.objs.size + l.length) (Obj.mapDictKeys (·.push e)) = hpOf b (l ++ [dO (es ++ [e])]) := by
  rw [hpOf_update, ← dO_push]
  congr 1
  exact modify_snoc l _ _
theorem getTop {b : Heap} {l : List Obj} {o : Obj} (hf : o.isFreed = false) : (hpOf b (l ++ [o])).get? (b.objs.size + l.length) = some o := hpOf_get (by simp) hf
theorem placesNone_snoc {es : List DictEntry} {e : DictEntry} {m : Int} (h : placesNone es m) (he : e.hash < m) : placesNone (es ++ [e]) m := by
  intro x hx
  rcases List.mem_append.mp hx with h1 | h1
  · exact h x h1
  · rw [List.mem_singleton.mp h1]; exact he

theorem goFill {b : Heap} (hb : Nat.ble 11 b.objs.size = true) {l : List Obj} (q : Pos) : ∀ (r : KS) (es : List DictEntry) (tk : Nat) (m : Int), 0 ≤ m → (∀ e ∈ es, e.hash ≤ m) → rises m (r.map (·.1)) → es.length + r.length < 100000 →
    Go w (13 * r.length) (forIn (r.map (prS q)) PUnit.unit fun (x : Sem Value × Sem Value) (_ : PUnit) => do
        let kv ← x.1
        let vv ← holding [kv] x.2
        holding [kv, vv] (dictSet (b.objs.size + l.length) kv vv)
        pure (ForInStep.yield PUnit.unit)) ⟨hpOf b (l ++ [dO es]), gs, dr, tk, os⟩ q PUnit.unit ⟨hpOf b (l ++ [dO (es ++ entsL r tk)]), gs, dr, tk + 3 * r.length, os⟩ q
  | [], es, tk, m, _, _, _, _ => by
    simp only [List.map_nil, List.forIn_nil, entsL, List.append_nil, List.length_nil, Nat.mul_zero, Nat.add_zero]
    exact Go.pure
  | (k, x) :: r, es, tk, m, hm, he, ⟨h1, h2, h3⟩, hl => by
    have h1 : m < k := h1
    have h2 : k < 2 ^ 60 := h2
    have hk : placesNone es k := fun e h => Int.lt_of_le_of_lt (he e h) h1
    simp only [List.map_cons, List.forIn_cons]
    simp only [List.length_cons] at hl
    refine Go.le (Go.bind (c := 13) (c' := 13 * r.length) (a := ForInStep.yield PUnit.unit) (s1 := ⟨hpOf b (l ++ [dO (es ++ [⟨k, .int k tk, .str x (tk + 1)⟩])]), gs, dr, tk + 3, os⟩) (p1 := q) ?_ ?_) (by simp only [List.length_cons]; omega)
    · refine Go.le (Go.bind (c := 1) (c' := 12) (Go.mkInt (i := k)) ?_) (Nat.le_refl _)
      refine Go.le (Go.bind (c := 2) (c' := 10) (Go.holding (Go.le (Go.bind (Go.mkText (x := x)) (Go.bind (Go.standAt (q := q)) Go.pure)) (Nat.le_refl _))) ?_) (Nat.le_refl _)
      refine Go.bind (c := 10) (c' := 0) (Go.holding (Go.set (es := es) (by omega) h2 (getTop rfl) (by simp only [Nat.ble_eq] at hb ⊢; omega) (by omega) hk)) ?_
      dsimp only
      rw [setAt]
      exact Go.pure
    · have := goFill hb (l := l) q r (es ++ [⟨k, .int k tk, .str x (tk + 1)⟩]) (tk + 3) k (by omega) (fun e h => by
        rcases List.mem_append.mp h with h | h
        · exact Int.le_of_lt (hk e h)
        · rw [List.mem_singleton.mp h]; exact Int.le_refl _) h3 (by simp; omega)
      dsimp only
      simp only [entsL, List.length_cons]
      rw [show tk + 3 * (r.length + 1) = tk + 3 + 3 * r.length by omega]
      rw [List.append_assoc] at this
      exact this

theorem goSubL {b : Heap} (hb : Nat.ble 11 b.objs.size = true) {l : List Obj} (q : Pos) (r : KS) (tk : Nat) (hr : rises 0 (r.map (·.1))) (hn : 15 < r.length) (hl : r.length < 100000) :
    Go w (2 + 13 * r.length) (subDict (r.map (prS q))) ⟨hpOf b l, gs, dr, tk, os⟩ q (b.objs.size + l.length) ⟨hpOf b (l ++ [dO (entsL r tk)]), gs, dr, tk + 3 * r.length, os⟩ q := by
  unfold subDict
  refine Go.le (Go.bind (c := 1) (c' := 1 + 13 * r.length) (Go.alloc) ?_) (by omega)
  dsimp only
  rw [hpOf_size, hpOf_push]
  refine Go.bind (c := 1 + 13 * r.length) (c' := 0) (a := PUnit.unit) (s1 := ⟨hpOf b (l ++ [dO (entsL r tk)]), gs, dr, tk + 3 * r.length, os⟩) (p1 := q) ?_ Go.pure
  refine Go.holding ?_
  rw [if_neg (by simp; omega)]
  refine Go.bind Go.rule ?_
  exact Go.bind (c' := 0) (goFill hb q r [] tk 0 (by omega) (fun e h => nomatch h) hr (by simpa using hl)) Go.pure
end
end Mine
/-! part HdC -/
namespace Mine
open PySem PySem.W PyProof.Rows PySem.Calls
section
variable {w : World} {gs : Array GenState} {dr : Drawn} {os : OsState}

noncomputable def intKeys (es : List DictEntry) : Prop := ∀ e ∈ es, ∃ t, e.key = .int e.hash t
theorem entsL_keys : ∀ (l : KS) (t : Tok), intKeys (entsL l t)
  | [], _ => fun _ h => nomatch h
  | (k, x) :: r, t => fun e h => by
    rcases List.mem_cons.mp h with rfl | h
    · exact ⟨_, rfl⟩
    · exact entsL_keys r (t + 3) e h
theorem entsS_keys : ∀ (l : KS) (t : Tok), intKeys (entsS l t)
  | [], _ => fun _ h => nomatch h
  | (k, x) :: r, t => fun e h => by
    rcases List.mem_cons.mp h with rfl | h
    · exact ⟨_, rfl⟩
    · exact entsS_keys r (t + 2) e h

theorem get0 {b : Heap} {o : Obj} {r : List Obj} (hf : o.isFreed = false) : (hpOf b (o :: r)).get? b.objs.size = some o := hpOf_get (i := 0) rfl hf
theorem update0 {b : Heap} {es : List DictEntry} {e : DictEntry} {r : List Obj} : (hpOf b (dO es :: r)).update b.objs.size (Obj.mapDictKeys (·.push e)) = hpOf b (dO (es ++ [e]) :: r) := by
  have := hpOf_update b (dO es :: r) 0 (Obj.mapDictKeys (·.push e))
  rw [Nat.add_zero] at this
  rw [this, ← dO_push]; rfl
theorem getLast {b : Heap} {o o' : Obj} {g : List Obj} (hf : o.isFreed = false) : (hpOf b (o' :: (g ++ [o]))).get? (b.objs.size + (g.length + 1)) = some o := hpOf_get (i := g.length + 1) (by simp) hf

theorem goMergeLoop {b : Heap} (hb : Nat.ble 11 b.objs.size = true) {g : List Obj} {q : Pos} {e2 : List DictEntry} {ep : Nat} (hep : ep = e2.length) : ∀ (rem pre es : List DictEntry) (tk : Nat) (m : Int), e2 = pre ++ rem → intKeys rem → (∀ e ∈ es, e.hash ≤ m) → rises m (rem.map (·.hash)) → es.length + rem.length < 100000 →
    Go w (6 * rem.length) (forIn (List.range' pre.length rem.length) PUnit.unit fun (i : Nat) (_ : PUnit) => do
        let x ← dictEntries (b.objs.size + (g.length + 1))
        match x[i]? with
        | some e => do
          holding [e.key, e.val] (if false = true then do
              let y ← dictFind b.objs.size e.key e.hash
              if y.isSome = true then do
                PySem.rule "dict.merge.duplicate-key"
                let z ← newExc (.type "KeyError") [e.key]
                raiseNew z
                dictPut b.objs.size e.hash e.key e.val
              else dictPut b.objs.size e.hash e.key e.val
            else dictPut b.objs.size e.hash e.key e.val)
          let z ← dictEpoch (b.objs.size + (g.length + 1))
          if (z != ep) = true then do
            unsupported "dict.changed-during-merge"
            pure (ForInStep.yield PUnit.unit)
          else pure (ForInStep.yield PUnit.unit)
        | _ => do
          unsupported "dict.changed-during-merge"
          pure (ForInStep.yield PUnit.unit)) ⟨hpOf b (dO es :: (g ++ [dO e2])), gs, dr, tk, os⟩ q PUnit.unit ⟨hpOf b (dO (es ++ rem) :: (g ++ [dO e2])), gs, dr, tk, os⟩ q
  | [], pre, es, tk, m, _, _, _, _, _ => by
    simp only [List.length_nil, List.range'_zero, List.forIn_nil, List.append_nil]
    exact Go.pure
  | e :: rem, pre, es, tk, m, h2, hk, he, hr, hl => by
    have h1 : m < e.hash := hr.1
    have hr' : rises e.hash (rem.map (·.hash)) := hr.2.2
    have hp : placesNone es e.hash := fun x h => Int.lt_of_le_of_lt (he x h) h1
    obtain ⟨t, ht⟩ := hk e (.head _)
    simp only [List.length_cons, List.range'_succ, List.forIn_cons]
    simp only [List.length_cons] at hl
    have hx : (e2.toArray)[pre.length]? = some e := by rw [h2]; simp
    have hg : (hpOf b (dO es :: (g ++ [dO e2]))).get? (b.objs.size + (g.length + 1)) = some (dO e2) := getLast rfl
    have hg' : (hpOf b (dO (es ++ [e]) :: (g ++ [dO e2]))).get? (b.objs.size + (g.length + 1)) = some (dO e2) := getLast rfl
    refine Go.le (Go.bind (c := 6) (c' := 6 * rem.length) (a := ForInStep.yield PUnit.unit) (s1 := ⟨hpOf b (dO (es ++ [e]) :: (g ++ [dO e2])), gs, dr, tk, os⟩) (p1 := q) ?_ ?_) (by omega)
    · refine Go.bind (c := 1) (c' := 5) (a := e2.toArray) (s1 := ⟨hpOf b (dO es :: (g ++ [dO e2])), gs, dr, tk, os⟩) (p1 := q) ?_ ?_
      · unfold dictEntries
        exact Go.bind0 (Go.load hg) Go.pure
      · rw [hx]
        dsimp only
        refine Go.bind (c := 4) (c' := 1) (a := ()) (s1 := ⟨hpOf b (dO (es ++ [e]) :: (g ++ [dO e2])), gs, dr, tk, os⟩) (p1 := q) ?_ ?_
        · refine Go.holding ?_
          rw [if_neg Bool.false_ne_true, ht]
          have := Go.put (w := w) (p := q) (d := b.objs.size) (k := e.hash) (h := e.hash) (t := t) (v := e.val) (s := ⟨hpOf b (dO es :: (g ++ [dO e2])), gs, dr, tk, os⟩) (es := es) (get0 rfl) hb (by omega) hp
          dsimp only at this
          rw [show (⟨e.hash, .int e.hash t, e.val⟩ : DictEntry) = e from by rw [← ht]] at this
          rw [update0] at this
          exact this
        · refine Go.bind (c := 1) (c' := 0) (a := ep) (s1 := ⟨hpOf b (dO (es ++ [e]) :: (g ++ [dO e2])), gs, dr, tk, os⟩) (p1 := q) ?_ ?_
          · unfold dictEpoch
            exact Go.bind0 (Go.load hg') (by rw [hep]; exact Go.pure)
          · rw [if_neg (by simp)]
            exact Go.pure
    · have := goMergeLoop hb (g := g) (q := q) hep rem (pre ++ [e]) (es ++ [e]) tk e.hash (by rw [h2]; simp) (fun x h => hk x (.tail _ h)) (fun x h => by
        rcases List.mem_append.mp h with h | h
        · exact Int.le_of_lt (hp x h)
        · rw [List.mem_singleton.mp h]; exact Int.le_refl _) hr' (by simp; omega)
      dsimp only
      rw [List.length_append, List.append_assoc] at this
      exact this

theorem iter_dict : typeLookup (.type "dict") "__iter__" = pure (some (.builtin "dict.__iter__")) := by rw [typeLookup_type, builtinLookup_eq_fast]; kernel_rfl
theorem sub_dict : isSubtype (.type "dict") (.type "dict") = pure true := by rw [isSubtype_type]; kernel_rfl

theorem goMerge {b : Heap} (hb : Nat.ble 11 b.objs.size = true) {g : List Obj} {q : Pos} {es e2 : List DictEntry} {tk : Nat} {m : Int} (hne : es ≠ []) (hk : intKeys e2) (he : ∀ e ∈ es, e.hash ≤ m) (hr : rises m (e2.map (·.hash))) (hl : es.length + e2.length < 100000) :
    Go w (5 + 6 * e2.length) (mergeMapping b.objs.size (.ref (b.objs.size + (g.length + 1))) false) ⟨hpOf b (dO es :: (g ++ [dO e2])), gs, dr, tk, os⟩ q () ⟨hpOf b (dO (es ++ e2) :: (g ++ [dO e2])), gs, dr, tk, os⟩ q := by
  have hg : (hpOf b (dO es :: (g ++ [dO e2]))).get? (b.objs.size + (g.length + 1)) = some (dO e2) := getLast rfl
  have ht : Go w 1 (typeOf (.ref (b.objs.size + (g.length + 1)))) ⟨hpOf b (dO es :: (g ++ [dO e2])), gs, dr, tk, os⟩ q (.type "dict") ⟨hpOf b (dO es :: (g ++ [dO e2])), gs, dr, tk, os⟩ q := by
    unfold typeOf
    exact Go.bind0 (Go.load hg) Go.pure
  unfold mergeMapping
  refine Go.le (Go.bind (c := 1) (c' := 4 + 6 * e2.length) (a := true) (s1 := ⟨hpOf b (dO es :: (g ++ [dO e2])), gs, dr, tk, os⟩) (p1 := q) ?_ ?_) (by omega)
  · unfold isInstance
    exact Go.bind0 ht (by rw [sub_dict]; exact Go.pure)
  · rw [if_pos rfl]
    refine Go.le (Go.bind (c := 1) (c' := 3 + 6 * e2.length) (a := some (.builtin "dict.__iter__")) (s1 := ⟨hpOf b (dO es :: (g ++ [dO e2])), gs, dr, tk, os⟩) (p1 := q) ?_ ?_) (by omega)
    · unfold specialOf
      exact Go.bind0 ht (by rw [iter_dict]; exact Go.pure)
    · refine Go.le (Go.bind (c := 0) (c' := 3 + 6 * e2.length) (a := true) (s1 := ⟨hpOf b (dO es :: (g ++ [dO e2])), gs, dr, tk, os⟩) (p1 := q) (by simp only [beq_self_eq_true]; exact Go.pure) ?_) (by omega)
      dsimp only
      rw [if_neg (show ¬ ((b.objs.size + (g.length + 1) == sysModules) = true) from by
        simp only [Nat.ble_eq] at hb
        simp only [beq_iff_eq, sysModules]; omega)]
      refine Go.le (Go.bind (c := 1) (c' := 2 + 6 * e2.length) (a := es.toArray) (s1 := ⟨hpOf b (dO es :: (g ++ [dO e2])), gs, dr, tk, os⟩) (p1 := q) ?_ ?_) (by omega)
      · unfold dictEntries
        exact Go.bind0 (Go.load (get0 rfl)) Go.pure
      · rw [if_neg (by simpa using hne)]
        refine Go.le (Go.bind (c := 1) (c' := 1 + 6 * e2.length) (a := e2.toArray) (s1 := ⟨hpOf b (dO es :: (g ++ [dO e2])), gs, dr, tk, os⟩) (p1 := q) ?_ ?_) (by omega)
        · unfold dictEntries
          exact Go.bind0 (Go.load hg) Go.pure
        · refine Go.bind (c := 1) (c' := 6 * e2.length) (a := e2.length) (s1 := ⟨hpOf b (dO es :: (g ++ [dO e2])), gs, dr, tk, os⟩) (p1 := q) ?_ ?_
          · unfold dictEpoch
            exact Go.bind0 (Go.load hg) Go.pure
          · refine Go.bind (c' := 0) (a := PUnit.unit) (s1 := ⟨hpOf b (dO (es ++ e2) :: (g ++ [dO e2])), gs, dr, tk, os⟩) (p1 := q) ?_ Go.pure
            rw [List.size_toArray, List.range_eq_range']
            exact goMergeLoop hb rfl e2 [] es tk m rfl hk he hr hl
end
end Mine
/-! part HdD -/
namespace Mine
open PySem PySem.W PyProof.Rows PySem.Calls
section
variable {w : World} {gs : Array GenState} {dr : Drawn} {os : OsState}

noncomputable def valsS : KS → Tok → List (Value × Value)
  | [], _ => []
  | (k, x) :: r, t => (.int k t, .str x (t + 1)) :: valsS r (t + 2)
theorem goEval (q : Pos) {h : Heap} : ∀ (r : KS) (tk : Nat), Go w (3 * r.length) (evalPairs (r.map (prS q))) ⟨h, gs, dr, tk, os⟩ q (valsS r tk) ⟨h, gs, dr, tk + 2 * r.length, os⟩ q
  | [], tk => by simp only [List.map_nil, evalPairs, valsS, List.length_nil, Nat.mul_zero, Nat.add_zero]; exact Go.pure
  | (k, x) :: r, tk => by
    simp only [List.map_cons, evalPairs, valsS]
    refine Go.le (Go.bind (c := 1) (c' := 2 + 3 * r.length) (Go.mkInt (i := k)) ?_) (by simp only [List.length_cons]; omega)
    refine Go.bind (c := 2) (Go.holding (Go.le (Go.bind (Go.mkText (x := x)) (Go.bind0 (Go.standAt (q := q)) Go.pure)) (Nat.le_refl _))) ?_
    refine Go.bind0 (Go.holding (goEval q r (tk + 2))) ?_
    rw [List.length_cons, show tk + 2 * (r.length + 1) = tk + 2 + 2 * r.length by omega]
    exact Go.pure
theorem goFillS {b : Heap} (hb : Nat.ble 11 b.objs.size = true) {l : List Obj} (q : Pos) : ∀ (r : KS) (es : List DictEntry) (t tk : Nat) (m : Int), 0 ≤ m → (∀ e ∈ es, e.hash ≤ m) → rises m (r.map (·.1)) → es.length + r.length < 100000 →
    Go w (10 * r.length) (forIn (valsS r t) PUnit.unit fun (x : Value × Value) (_ : PUnit) => do
        dictSet (b.objs.size + l.length) x.1 x.2
        pure (ForInStep.yield PUnit.unit)) ⟨hpOf b (l ++ [dO es]), gs, dr, tk, os⟩ q PUnit.unit ⟨hpOf b (l ++ [dO (es ++ entsS r t)]), gs, dr, tk + r.length, os⟩ q
  | [], es, t, tk, m, _, _, _, _ => by
    simp only [valsS, List.forIn_nil, entsS, List.append_nil, List.length_nil, Nat.add_zero]
    exact Go.pure
  | (k, x) :: r, es, t, tk, m, hm, he, ⟨h1, h2, h3⟩, hl => by
    have h1 : m < k := h1
    have h2 : k < 2 ^ 60 := h2
    have hk : placesNone es k := fun e h => Int.lt_of_le_of_lt (he e h) h1
    simp only [valsS, List.forIn_cons]
    simp only [List.length_cons] at hl
    refine Go.le (Go.bind (c := 10) (c' := 10 * r.length) (a := ForInStep.yield PUnit.unit) (s1 := ⟨hpOf b (l ++ [dO (es ++ [⟨k, .int k t, .str x (t + 1)⟩])]), gs, dr, tk + 1, os⟩) (p1 := q) ?_ ?_) (by simp only [List.length_cons]; omega)
    · refine Go.bind0 (Go.set (es := es) (by omega) h2 (getTop rfl) (by simp only [Nat.ble_eq] at hb ⊢; omega) (by omega) hk) ?_
      dsimp only
      rw [setAt]
      exact Go.pure
    · have := goFillS hb (l := l) q r (es ++ [⟨k, .int k t, .str x (t + 1)⟩]) (t + 2) (tk + 1) k (by omega) (fun e h => by
        rcases List.mem_append.mp h with h | h
        · exact Int.le_of_lt (hk e h)
        · rw [List.mem_singleton.mp h]; exact Int.le_refl _) h3 (by simp; omega)
      dsimp only
      simp only [entsS, List.length_cons]
      rw [show tk + (r.length + 1) = tk + 1 + r.length by omega]
      rw [List.append_assoc] at this
      exact this
theorem goSubS {b : Heap} (hb : Nat.ble 11 b.objs.size = true) {l : List Obj} (q : Pos) (r : KS) (tk : Nat) (hr : rises 0 (r.map (·.1))) (hn : r.length ≤ 15) :
    Go w (2 + 13 * r.length) (subDict (r.map (prS q))) ⟨hpOf b l, gs, dr, tk, os⟩ q (b.objs.size + l.length) ⟨hpOf b (l ++ [dO (entsS r tk)]), gs, dr, tk + 3 * r.length, os⟩ q := by
  unfold subDict
  refine Go.le (Go.bind (c := 1) (c' := 13 * r.length) (Go.alloc) ?_) (by omega)
  dsimp only
  rw [hpOf_size, hpOf_push]
  refine Go.bind (c := 13 * r.length) (c' := 0) (a := PUnit.unit) (s1 := ⟨hpOf b (l ++ [dO (entsS r tk)]), gs, dr, tk + 3 * r.length, os⟩) (p1 := q) ?_ Go.pure
  refine Go.holding ?_
  rw [if_pos (by simpa using hn)]
  refine Go.le (Go.bind (c' := 10 * r.length) (goEval q r tk) ?_) (by omega)
  refine Go.holding ?_
  have := goFillS (w := w) (gs := gs) (dr := dr) (os := os) hb (l := l) q r [] tk (tk + 2 * r.length) 0 (by omega) (fun e h => nomatch h) hr (by simp; omega)
  rw [show tk + 3 * r.length = tk + 2 * r.length + r.length by omega]
  exact Go.bind0 this Go.pure

/-- what a run of pairs does at its end -/
noncomputable def flushT (run : List (Sem Value × Sem Value)) (main : Option Addr) : Sem (Option Addr) :=
  if run.isEmpty = true then pure main
  else match main with
    | none => do
      let d ← subDict run
      pure (some d)
    | some d => do
      let sub ← holding [.ref d] (subDict run)
      (holding [.ref d, .ref sub] (mergeMapping d (.ref sub) false)).onRaise fun x => do
        let _ ← holding [.ref d, x] (runValue (.builtin "proto.let_go" {}))
        pure ()
      pure (some d)
noncomputable abbrev St := Option Addr × List (Sem Value × Sem Value)
noncomputable def itS (q : Pos) (x : Int × Str) : Option (Sem Value) × Sem Value := (some (prS q x).1, (prS q x).2)

noncomputable def BodyOk (f : Option (Sem Value) × Sem Value → St → Sem (ForInStep St)) : Prop := ∀ (k v : Sem Value) (st : St), f (some k, v) st =
  if ((st.2 ++ [(k, v)]).length == 17) = true then (do
    let main ← flushT (st.2 ++ [(k, v)]) st.1
    pure (ForInStep.yield (main, [])))
  else pure (ForInStep.yield (st.1, st.2 ++ [(k, v)]))

theorem goItems {f : Option (Sem Value) × Sem Value → St → Sem (ForInStep St)} (hf : BodyOk f) (q : Pos) {rest : List (Option (Sem Value) × Sem Value)} {main main' : Option Addr} {s s' s'' : Shared} {res : St} :
    ∀ {c1 c2 : Nat} (c run : KS), run.length + c.length = 17 → c ≠ [] → Go w c1 (flushT ((run ++ c).map (prS q)) main) s q main' s' q → Go w c2 (forIn rest (main', []) f) s' q res s'' q →
      Go w (c1 + c2) (forIn (c.map (itS q) ++ rest) (main, run.map (prS q)) f) s q res s'' q
  | _, _, [], _, _, h, _, _ => absurd rfl h
  | c1, c2, x :: c, run, hl, _, hF, hR => by
    simp only [List.map_cons, List.cons_append, List.forIn_cons]
    rw [show itS q x = (some (prS q x).1, (prS q x).2) from rfl, hf]
    have e : run.map (prS q) ++ [((prS q x).1, (prS q x).2)] = (run ++ [x]).map (prS q) := by simp
    dsimp only
    rw [e]
    cases c with
    | nil =>
      simp only [List.length_cons, List.length_nil] at hl
      rw [if_pos (by simp; omega)]
      refine Go.bind (Go.bind0 hF Go.pure) ?_
      simpa using hR
    | cons y c =>
      simp only [List.length_cons] at hl
      rw [if_neg (by simp; omega)]
      refine Go.le (Go.bind (c' := c1 + c2) Go.pure ?_) (by omega)
      exact goItems hf q (y :: c) (run ++ [x]) (by simp; omega) (by simp) (by rw [List.append_assoc]; exact hF) hR
theorem goRest {f : Option (Sem Value) × Sem Value → St → Sem (ForInStep St)} (hf : BodyOk f) (q : Pos) {main : Option Addr} {s : Shared} :
    ∀ (c run : KS), run.length + c.length < 17 → Go w 0 (forIn (c.map (itS q)) (main, run.map (prS q)) f) s q (main, (run ++ c).map (prS q)) s q
  | [], run, _ => by simp only [List.map_nil, List.forIn_nil, List.append_nil]; exact Go.pure
  | x :: c, run, hl => by
    simp only [List.map_cons, List.forIn_cons]
    rw [show itS q x = (some (prS q x).1, (prS q x).2) from rfl, hf]
    have e : run.map (prS q) ++ [((prS q x).1, (prS q x).2)] = (run ++ [x]).map (prS q) := by simp
    dsimp only
    rw [e]
    simp only [List.length_cons] at hl
    rw [if_neg (by simp; omega)]
    refine Go.bind0 Go.pure ?_
    have := goRest hf q (main := main) (s := s) c (run ++ [x]) (by simp; omega)
    rw [List.append_assoc] at this
    exact this

noncomputable def lastOf (m : Int) (l : List Int) : Int := l.foldl (fun _ k => k) m
theorem rises_app : ∀ {l r : List Int} {m : Int}, rises m (l ++ r) → rises m l ∧ rises (lastOf m l) r ∧ m ≤ lastOf m l ∧ ∀ k ∈ l, k ≤ lastOf m l
  | [], r, m, h => ⟨trivial, h, Int.le_refl _, fun _ h => nomatch h⟩
  | k :: l, r, m, ⟨h1, h2, h3⟩ => by
    obtain ⟨a, b, c, d⟩ := rises_app h3
    have e : lastOf m (k :: l) = lastOf k l := rfl
    refine ⟨⟨h1, h2, a⟩, b, by rw [e]; omega, fun x hx => ?_⟩
    rw [e]
    rcases List.mem_cons.mp hx with rfl | hx
    · exact c
    · exact d x hx
theorem rises_mono : ∀ {l : List Int} {m m' : Int}, m' ≤ m → rises m l → rises m' l
  | [], _, _, _, _ => trivial
  | k :: l, m, m', h, ⟨h1, h2, h3⟩ => ⟨by omega, h2, h3⟩

noncomputable def endL : List KS → List DictEntry → List Obj → Tok → List DictEntry × List Obj × Tok
  | [], es, g, t => (es, g, t)
  | c :: r, es, g, t => endL r (es ++ entsL c t) (g ++ [dO (entsL c t)]) (t + 3 * c.length)

theorem flush1 {b : Heap} (hb : Nat.ble 11 b.objs.size = true) (q : Pos) {es e2 : List DictEntry} {g : List Obj} {tk tk' : Nat} {m : Int} {r : KS} (hne : r ≠ [])
    {c : Nat} (hs : Go w c (subDict (r.map (prS q))) ⟨hpOf b (dO es :: g), gs, dr, tk, os⟩ q (b.objs.size + (dO es :: g).length) ⟨hpOf b ((dO es :: g) ++ [dO e2]), gs, dr, tk', os⟩ q)
    (hes : es ≠ []) (hk : intKeys e2) (he : ∀ e ∈ es, e.hash ≤ m) (hr : rises m (e2.map (·.hash))) (hl : es.length + e2.length < 100000) :
    Go w (c + (5 + 6 * e2.length)) (flushT (r.map (prS q)) (some b.objs.size)) ⟨hpOf b (dO es :: g), gs, dr, tk, os⟩ q (some b.objs.size) ⟨hpOf b (dO (es ++ e2) :: (g ++ [dO e2])), gs, dr, tk', os⟩ q := by
  unfold flushT
  rw [if_neg (by simpa using hne)]
  dsimp only
  refine Go.bind (Go.holding hs) ?_
  refine Go.bind0 (Go.onRaise (Go.holding (goMerge (w := w) (gs := gs) (dr := dr) (os := os) hb (g := g) (q := q) (tk := tk') hes hk he hr hl))) Go.pure

theorem goChunks {f : Option (Sem Value) × Sem Value → St → Sem (ForInStep St)} (hf : BodyOk f) {b : Heap} (hb : Nat.ble 11 b.objs.size = true) (q : Pos) (last : KS) (hlast : last.length ≤ 15) :
    ∀ (cs : List KS) (es : List DictEntry) (g : List Obj) (tk : Nat) (m : Int), (∀ c ∈ cs, c.length = 17) → 0 ≤ m → es ≠ [] → (∀ e ∈ es, e.hash ≤ m) → rises m (cs.flatten.map (·.1)) → es.length + 17 * cs.length < 90000 →
      Go w (330 * cs.length) (forIn (cs.flatten.map (itS q) ++ last.map (itS q)) (some b.objs.size, []) f) ⟨hpOf b (dO es :: g), gs, dr, tk, os⟩ q (some b.objs.size, last.map (prS q))
        ⟨hpOf b (dO (endL cs es g tk).1 :: (endL cs es g tk).2.1), gs, dr, (endL cs es g tk).2.2, os⟩ q
  | [], es, g, tk, m, _, _, _, _, _, _ => by
    simp only [List.flatten_nil, List.map_nil, List.nil_append, endL]
    exact goRest hf q last [] (by simp; omega)
  | c :: cs, es, g, tk, m, hc, hm, hes, he, hr, hl => by
    have h17 : c.length = 17 := hc c (.head _)
    simp only [List.flatten_cons, List.map_append] at hr ⊢
    obtain ⟨r1, r2, r3, r4⟩ := rises_app hr
    simp only [List.length_cons] at hl
    rw [List.append_assoc]
    have hsub := goSubL (w := w) (gs := gs) (dr := dr) (os := os) hb (l := dO es :: g) q c tk (rises_mono hm r1) (by omega) (by omega)
    have hfl := flush1 (w := w) (gs := gs) (dr := dr) (os := os) hb q (es := es) (e2 := entsL c tk) (g := g) (tk := tk) (m := m) (r := c) (by intro e; simp [e] at h17) hsub hes (entsL_keys _ _) he (by rw [entsL_hash]; exact r1) (by rw [entsL_length]; omega)
    refine Go.le (goItems (c2 := 330 * cs.length) hf q c [] (by simpa using h17) (by intro e; simp [e] at h17) hfl ?_) (by rw [entsL_length]; simp only [List.length_cons]; omega)
    refine goChunks hf hb q last hlast cs (es ++ entsL c tk) (g ++ [dO (entsL c tk)]) (tk + 3 * c.length) (lastOf m (c.map (·.1))) (fun x hx => hc x (.tail _ hx)) (by omega) (by simp [hes]) (fun e h => ?_) r2 (by rw [List.length_append, entsL_length]; omega)
    rcases List.mem_append.mp h with h | h
    · have := he e h; omega
    · refine r4 _ ?_
      rw [← entsL_hash c tk]
      exact List.mem_map_of_mem h

theorem endL_facts : ∀ (cs : List KS) (es : List DictEntry) (g : List Obj) (tk : Nat) (m : Int), 0 ≤ m → es ≠ [] → (∀ e ∈ es, e.hash ≤ m) → rises m (cs.flatten.map (·.1)) →
    (endL cs es g tk).1 ≠ [] ∧ (∀ e ∈ (endL cs es g tk).1, e.hash ≤ lastOf m (cs.flatten.map (·.1))) ∧ (endL cs es g tk).1.length = es.length + cs.flatten.length
  | [], es, g, tk, m, _, h1, h2, _ => ⟨h1, h2, by simp [endL]⟩
  | c :: cs, es, g, tk, m, hm, h1, h2, hr => by
    simp only [List.flatten_cons, List.map_append] at hr ⊢
    obtain ⟨r1, r2, r3, r4⟩ := rises_app hr
    have := endL_facts cs (es ++ entsL c tk) (g ++ [dO (entsL c tk)]) (tk + 3 * c.length) (lastOf m (c.map (·.1))) (by omega) (by simp [h1]) (fun e h => by
      rcases List.mem_append.mp h with h | h
      · have := h2 e h; omega
      · refine r4 _ ?_
        rw [← entsL_hash c tk]
        exact List.mem_map_of_mem h) r2
    simp only [endL]
    refine ⟨this.1, ?_, ?_⟩
    · have e : lastOf m (List.map (fun x => x.fst) c ++ List.map (fun x => x.fst) cs.flatten) = lastOf (lastOf m (c.map (·.1))) (cs.flatten.map (·.1)) := by simp [lastOf]
      rw [e]; exact this.2.1
    · rw [this.2.2, List.length_append, entsL_length, List.length_append]; omega

theorem goDisplay {b : Heap} (hb : Nat.ble 11 b.objs.size = true) (q : Pos) (c0 : KS) (cs : List KS) (last : KS) (tk : Nat) (h0 : c0.length = 17) (hcs : ∀ c ∈ cs, c.length = 17) (hlast : last.length ≤ 15) (hln : last ≠ [])
    (hr : rises 0 ((c0 ++ (cs.flatten ++ last)).map (·.1))) (hsz : cs.length < 1000) :
    Go w (330 * cs.length + 600) (dictDisplay ((c0 ++ (cs.flatten ++ last)).map (itS q))) ⟨b, gs, dr, tk, os⟩ q (.ref b.objs.size)
      ⟨hpOf b (dO ((endL cs (entsL c0 tk) [] (tk + 51)).1 ++ entsS last (endL cs (entsL c0 tk) [] (tk + 51)).2.2) :: ((endL cs (entsL c0 tk) [] (tk + 51)).2.1 ++ [dO (entsS last (endL cs (entsL c0 tk) [] (tk + 51)).2.2)])), gs, dr, (endL cs (entsL c0 tk) [] (tk + 51)).2.2 + 3 * last.length, os⟩ q := by
  simp only [List.map_append] at hr ⊢
  obtain ⟨r1, r2, r3, r4⟩ := rises_app hr
  obtain ⟨u1, u2, u3, u4⟩ := rises_app r2
  unfold dictDisplay
  have hne0 : entsL c0 tk ≠ [] := by
    intro e
    have := entsL_length c0 tk
    rw [e, h0] at this; cases this
  have he0 : ∀ e ∈ entsL c0 tk, e.hash ≤ lastOf 0 (c0.map (·.1)) := fun e h => by
    refine r4 _ ?_
    rw [← entsL_hash c0 tk]
    exact List.mem_map_of_mem h
  refine Go.le (Go.bind (c := 330 * cs.length + 223) (c' := (2 + 13 * last.length) + (5 + 6 * last.length)) (a := (some b.objs.size, last.map (prS q))) (s1 := ⟨hpOf b (dO (endL cs (entsL c0 tk) [] (tk + 51)).1 :: (endL cs (entsL c0 tk) [] (tk + 51)).2.1), gs, dr, (endL cs (entsL c0 tk) [] (tk + 51)).2.2, os⟩) (p1 := q) ?_ ?_) (by omega)
  · have hsub := goSubL (w := w) (gs := gs) (dr := dr) (os := os) (b := b) hb (l := []) q c0 tk (rises_mono (Int.le_refl _) r1) (by omega) (by omega)
    rw [hpOf_nil, h0] at hsub
    refine Go.le (goItems (c1 := 223) (c2 := 330 * cs.length) (main := none) (main' := some b.objs.size) (s' := ⟨hpOf b [dO (entsL c0 tk)], gs, dr, tk + 51, os⟩) (fun k v st => rfl) q c0 [] (by simpa using h0) (by intro e; simp [e] at h0) ?_ ?_) (by omega)
    · unfold flushT
      rw [if_neg (by intro e; simp at e; simp [e] at h0)]
      exact Go.bind0 (by simpa [h0] using hsub) Go.pure
    · exact goChunks (fun k v st => rfl) hb q last hlast cs (entsL c0 tk) [] (tk + 51) (lastOf 0 (c0.map (·.1))) hcs r3 hne0 he0 u1 (by rw [entsL_length]; omega)
  · obtain ⟨f1, f2, f3⟩ := endL_facts cs (entsL c0 tk) [] (tk + 51) (lastOf 0 (c0.map (·.1))) r3 hne0 he0 u1
    have hsub := goSubS (w := w) (gs := gs) (dr := dr) (os := os) (b := b) hb (l := dO (endL cs (entsL c0 tk) [] (tk + 51)).1 :: (endL cs (entsL c0 tk) [] (tk + 51)).2.1) q last (endL cs (entsL c0 tk) [] (tk + 51)).2.2 (rises_mono (by omega) u2) hlast
    have hfl := flush1 (w := w) (gs := gs) (dr := dr) (os := os) hb q (g := (endL cs (entsL c0 tk) [] (tk + 51)).2.1) (m := lastOf (lastOf 0 (c0.map (·.1))) (cs.flatten.map (·.1))) (r := last) hln hsub f1 (entsS_keys _ _) f2 (by rw [entsS_hash]; exact u2) (by
      have h17 : cs.flatten.length = 17 * cs.length := by
        clear u1 u2 u3 u4 r1 r2 r3 r4 hr f1 f2 f3 hsub hsz
        induction cs with
        | nil => rfl
        | cons c cs ih => simp [hcs c (.head _), ih (fun c h => hcs c (.tail _ h))]; omega
      rw [f3, entsS_length, entsL_length]; omega)
    rw [entsS_length] at hfl
    refine Go.bind0 (a := some b.objs.size) (p1 := q) hfl ?_
    exact Go.pure
end
end Mine
/-! part HdE -/
namespace Mine
open PySem PySem.W PyProof.Rows PySem.Calls
noncomputable def sv (x : Str) (t : Nat) : Value := .str x t
noncomputable def en (P : Params) (x : Str) (t : Nat) (v : Value) : DictEntry := ⟨PyData.keyHash P x, .str x t, v⟩
noncomputable def stmtAt (i : Nat) : Stmt := (pw.main.body[i]?).getD (.Pass p0)
noncomputable def fnD (i : Nat) (g : Addr) (pm cd : Value) : Data := match stmtAt i with
  | .FunctionDef n a b _ _ _ sc _ _ _ => .func { name := n, qualname := n, params := a, body := .stmts b, scope := sc, globals := g, closure := [], defaults := .none, kwdefaults := .none, pyModule := pm, code := cd }
  | _ => .plain
/-- the rows of the table b3, as the text has them -/
noncomputable def ksOf : List (Option Expr) → List Expr → KS
  | some (.Constant (.int k) _ _) :: r, .Constant (.str x) _ _ :: v => (k, x) :: ksOf r v
  | _, _ => []
noncomputable def ks : KS := match stmtAt 11 with
  | .Assign _ (.Dict k v _) _ => ksOf k v
  | _ => []
noncomputable def chunks : Nat → KS → List KS
  | 0, _ => []
  | n + 1, l => l.take 17 :: chunks n (l.drop 17)
noncomputable def c0 : KS := ks.take 17
noncomputable def cs : List KS := chunks 37 (ks.drop 17)
noncomputable def last : KS := ks.drop 646
noncomputable def dspE : List DictEntry × List Obj × Tok := endL cs (entsL c0 316) [] 367
noncomputable def dspL : List Obj := dO (dspE.1 ++ entsS last dspE.2.2) :: (dspE.2.1 ++ [dO (entsS last dspE.2.2)])
noncomputable def dsp (i : Nat) : Obj := (dspL[i]?).getD default
noncomputable def o11_p (P : Params) : Obj := ⟨.type "tuple", none, .seq #[] 0, #[]⟩
noncomputable def o12_p (P : Params) : Obj := ⟨.none, none, .fields #[], #[]⟩
noncomputable def o13_p (P : Params) : Obj := ⟨.type "code", none, .fields #[sv "<module>" 182, sv "<module>" 183, sv "/claim/cut.py" 184, .int 1 0, .int 0 0, .int 0 0, .int 0 0, .int 0 0, .ref 11, .bool false, .int 181 0, .ref 12, .none, .none, .none, .none, .int 185 0, .int 1 0, sv "/claim/cut.py" 186], #[]⟩
noncomputable def o14_p (P : Params) : Obj := ⟨.type "frame", none, .plain, #[some (.ref 13), some (.ref 3), some (.ref 3), none, some (sv "__main__" 164), none, some (.ref 0)]⟩
noncomputable def lsP (P : Params) : List Obj := [boot_o_0 P, boot_o_1 P, boot_o_2 P, boot_o_3 P, boot_o_4 P, boot_o_5 P, boot_o_6 P, boot_o_7 P, boot_o_8 P, boot_o_9 P, boot_o_10 P, o11_p P, o12_p P, o13_p P, o14_p P]
noncomputable def tkP : Nat := 187
noncomputable def posP : Pos := ⟨0, 0, 0, 0⟩
noncomputable def posF : Pos := ⟨0, 0, 0, 0⟩
noncomputable def T0 (P : Params) : BT := (.node (boot_o_0 P) (.node (boot_o_1 P) (.node (boot_o_3 P) (.node (boot_o_7 P) .nil .nil) (.node (o11_p P) .nil .nil)) (.node (boot_o_5 P) (.node (boot_o_9 P) .nil .nil) (.node (o13_p P) .nil .nil))) (.node (boot_o_2 P) (.node (boot_o_4 P) (.node (boot_o_8 P) .nil .nil) (.node (o12_p P) .nil .nil)) (.node (boot_o_6 P) (.node (boot_o_10 P) .nil .nil) (.node (o14_p P) .nil .nil))))
noncomputable abbrev n0 : Nat := 15
noncomputable abbrev tk0 : Nat := 187
noncomputable abbrev pos0 : Pos := ⟨0, 0, 0, 0⟩
-- steps up to 0: 0
noncomputable def o3_9 (P : Params) : Obj := ⟨.type "dict", none, .dict #[en P "__name__" 165 (sv "cpy313.stringprep" 247), en P "__doc__" 166 .none, en P "__package__" 167 .none, en P "__loader__" 168 (.builtin "__main__.__loader__#opaque"), en P "__spec__" 169 .none, en P "__annotations__" 170 (.ref 6), en P "__builtins__" 171 (.ref 4), en P "__file__" 173 (sv "/claim/cut.py" 172), en P "__cached__" 174 .none, en P "le" 196 (.ref 21), en P "ge" 204 (.ref 28), en P "add" 212 (.ref 35), en P "sub" 220 (.ref 42), en P "contains" 228 (.ref 49), en P "getitem" 236 (.ref 56), en P "indexOf" 246 (.ref 63)] 16, #[]⟩
noncomputable def o12_9 (P : Params) : Obj := ⟨.none, none, .fields #[.int 2 0, .int 0 0, .ref 20, .int 4 0, .int 0 0, .ref 27, .int 6 0, .int 0 0, .ref 34, .int 8 0, .int 0 0, .ref 41, .int 10 0, .int 0 0, .ref 48, .int 12 0, .int 0 0, .ref 55, .int 14 0, .int 0 0, .ref 62], #[]⟩
noncomputable def o15_9 (P : Params) : Obj := ⟨.type "tuple", none, .seq #[] 0, #[]⟩
noncomputable def o16_9 (P : Params) : Obj := ⟨.none, none, .fields #[], #[]⟩
noncomputable def o17_9 (P : Params) : Obj := ⟨.type "tuple", none, .seq #[sv "a" 192, sv "b" 193] 0, #[]⟩
noncomputable def o18_9 (P : Params) : Obj := ⟨.type "tuple", none, .seq #[] 0, #[]⟩
noncomputable def o19_9 (P : Params) : Obj := ⟨.none, none, fnD 1 0 .none .none, #[]⟩
noncomputable def o20_9 (P : Params) : Obj := ⟨.type "code", none, .fields #[sv "le" 189, sv "le" 190, sv "/claim/cut.py" 191, .int 2 0, .int 2 0, .int 0 0, .int 0 0, .int 3 0, .ref 15, .bool true, .int 181 0, .ref 16, .none, .ref 17, .ref 18, .ref 19, .int 194 0, .int 2 0, sv "/claim/cut.py" 195], #[]⟩
noncomputable def o21_9 (P : Params) : Obj := ⟨.type "function", none, fnD 1 3 (sv "cpy313.operator" 187) (.ref 20), #[]⟩
noncomputable def o22_9 (P : Params) : Obj := ⟨.type "tuple", none, .seq #[] 0, #[]⟩
noncomputable def o23_9 (P : Params) : Obj := ⟨.none, none, .fields #[], #[]⟩
noncomputable def o24_9 (P : Params) : Obj := ⟨.type "tuple", none, .seq #[sv "a" 200, sv "b" 201] 0, #[]⟩
noncomputable def o25_9 (P : Params) : Obj := ⟨.type "tuple", none, .seq #[] 0, #[]⟩
noncomputable def o26_9 (P : Params) : Obj := ⟨.none, none, fnD 2 0 .none .none, #[]⟩
noncomputable def o27_9 (P : Params) : Obj := ⟨.type "code", none, .fields #[sv "ge" 197, sv "ge" 198, sv "/claim/cut.py" 199, .int 4 0, .int 2 0, .int 0 0, .int 0 0, .int 3 0, .ref 22, .bool true, .int 181 0, .ref 23, .none, .ref 24, .ref 25, .ref 26, .int 202 0, .int 4 0, sv "/claim/cut.py" 203], #[]⟩
noncomputable def o28_9 (P : Params) : Obj := ⟨.type "function", none, fnD 2 3 (sv "cpy313.operator" 187) (.ref 27), #[]⟩
noncomputable def o29_9 (P : Params) : Obj := ⟨.type "tuple", none, .seq #[] 0, #[]⟩
noncomputable def o30_9 (P : Params) : Obj := ⟨.none, none, .fields #[], #[]⟩
noncomputable def o31_9 (P : Params) : Obj := ⟨.type "tuple", none, .seq #[sv "a" 208, sv "b" 209] 0, #[]⟩
noncomputable def o32_9 (P : Params) : Obj := ⟨.type "tuple", none, .seq #[] 0, #[]⟩
noncomputable def o33_9 (P : Params) : Obj := ⟨.none, none, fnD 3 0 .none .none, #[]⟩
noncomputable def o34_9 (P : Params) : Obj := ⟨.type "code", none, .fields #[sv "add" 205, sv "add" 206, sv "/claim/cut.py" 207, .int 6 0, .int 2 0, .int 0 0, .int 0 0, .int 3 0, .ref 29, .bool true, .int 181 0, .ref 30, .none, .ref 31, .ref 32, .ref 33, .int 210 0, .int 6 0, sv "/claim/cut.py" 211], #[]⟩
noncomputable def o35_9 (P : Params) : Obj := ⟨.type "function", none, fnD 3 3 (sv "cpy313.operator" 187) (.ref 34), #[]⟩
noncomputable def o36_9 (P : Params) : Obj := ⟨.type "tuple", none, .seq #[] 0, #[]⟩
noncomputable def o37_9 (P : Params) : Obj := ⟨.none, none, .fields #[], #[]⟩
noncomputable def o38_9 (P : Params) : Obj := ⟨.type "tuple", none, .seq #[sv "a" 216, sv "b" 217] 0, #[]⟩
noncomputable def o39_9 (P : Params) : Obj := ⟨.type "tuple", none, .seq #[] 0, #[]⟩
noncomputable def o40_9 (P : Params) : Obj := ⟨.none, none, fnD 4 0 .none .none, #[]⟩
noncomputable def o41_9 (P : Params) : Obj := ⟨.type "code", none, .fields #[sv "sub" 213, sv "sub" 214, sv "/claim/cut.py" 215, .int 8 0, .int 2 0, .int 0 0, .int 0 0, .int 3 0, .ref 36, .bool true, .int 181 0, .ref 37, .none, .ref 38, .ref 39, .ref 40, .int 218 0, .int 8 0, sv "/claim/cut.py" 219], #[]⟩
noncomputable def o42_9 (P : Params) : Obj := ⟨.type "function", none, fnD 4 3 (sv "cpy313.operator" 187) (.ref 41), #[]⟩
noncomputable def o43_9 (P : Params) : Obj := ⟨.type "tuple", none, .seq #[] 0, #[]⟩
noncomputable def o44_9 (P : Params) : Obj := ⟨.none, none, .fields #[], #[]⟩
noncomputable def o45_9 (P : Params) : Obj := ⟨.type "tuple", none, .seq #[sv "a" 224, sv "b" 225] 0, #[]⟩
noncomputable def o46_9 (P : Params) : Obj := ⟨.type "tuple", none, .seq #[] 0, #[]⟩
noncomputable def o47_9 (P : Params) : Obj := ⟨.none, none, fnD 5 0 .none .none, #[]⟩
noncomputable def o48_9 (P : Params) : Obj := ⟨.type "code", none, .fields #[sv "contains" 221, sv "contains" 222, sv "/claim/cut.py" 223, .int 10 0, .int 2 0, .int 0 0, .int 0 0, .int 3 0, .ref 43, .bool true, .int 181 0, .ref 44, .none, .ref 45, .ref 46, .ref 47, .int 226 0, .int 10 0, sv "/claim/cut.py" 227], #[]⟩
noncomputable def o49_9 (P : Params) : Obj := ⟨.type "function", none, fnD 5 3 (sv "cpy313.operator" 187) (.ref 48), #[]⟩
noncomputable def o50_9 (P : Params) : Obj := ⟨.type "tuple", none, .seq #[] 0, #[]⟩
noncomputable def o51_9 (P : Params) : Obj := ⟨.none, none, .fields #[], #[]⟩
noncomputable def o52_9 (P : Params) : Obj := ⟨.type "tuple", none, .seq #[sv "a" 232, sv "b" 233] 0, #[]⟩
noncomputable def o53_9 (P : Params) : Obj := ⟨.type "tuple", none, .seq #[] 0, #[]⟩
noncomputable def o54_9 (P : Params) : Obj := ⟨.none, none, fnD 6 0 .none .none, #[]⟩
noncomputable def o55_9 (P : Params) : Obj := ⟨.type "code", none, .fields #[sv "getitem" 229, sv "getitem" 230, sv "/claim/cut.py" 231, .int 12 0, .int 2 0, .int 0 0, .int 0 0, .int 3 0, .ref 50, .bool true, .int 181 0, .ref 51, .none, .ref 52, .ref 53, .ref 54, .int 234 0, .int 12 0, sv "/claim/cut.py" 235], #[]⟩
noncomputable def o56_9 (P : Params) : Obj := ⟨.type "function", none, fnD 6 3 (sv "cpy313.operator" 187) (.ref 55), #[]⟩
noncomputable def o57_9 (P : Params) : Obj := ⟨.type "tuple", none, .seq #[] 0, #[]⟩
noncomputable def o58_9 (P : Params) : Obj := ⟨.none, none, .fields #[], #[]⟩
noncomputable def o59_9 (P : Params) : Obj := ⟨.type "tuple", none, .seq #[sv "a" 240, sv "b" 241, sv "i" 242, sv "j" 243] 0, #[]⟩
noncomputable def o60_9 (P : Params) : Obj := ⟨.type "tuple", none, .seq #[] 0, #[]⟩
noncomputable def o61_9 (P : Params) : Obj := ⟨.none, none, fnD 7 0 .none .none, #[]⟩
noncomputable def o62_9 (P : Params) : Obj := ⟨.type "code", none, .fields #[sv "indexOf" 237, sv "indexOf" 238, sv "/claim/cut.py" 239, .int 14 0, .int 2 0, .int 0 0, .int 0 0, .int 3 0, .ref 57, .bool true, .int 181 0, .ref 58, .none, .ref 59, .ref 60, .ref 61, .int 244 0, .int 14 0, sv "/claim/cut.py" 245], #[]⟩
noncomputable def o63_9 (P : Params) : Obj := ⟨.type "function", none, fnD 7 3 (sv "cpy313.operator" 187) (.ref 62), #[]⟩
noncomputable def T9 (P : Params) : BT := (.node (boot_o_0 P) (.node (boot_o_1 P) (.node (o3_9 P) (.node (boot_o_7 P) (.node (o15_9 P) (.node (o31_9 P) (.node (o63_9 P) .nil .nil) .nil) (.node (o47_9 P) .nil .nil)) (.node (o23_9 P) (.node (o39_9 P) .nil .nil) (.node (o55_9 P) .nil .nil))) (.node (o11_p P) (.node (o19_9 P) (.node (o35_9 P) .nil .nil) (.node (o51_9 P) .nil .nil)) (.node (o27_9 P) (.node (o43_9 P) .nil .nil) (.node (o59_9 P) .nil .nil)))) (.node (boot_o_5 P) (.node (boot_o_9 P) (.node (o17_9 P) (.node (o33_9 P) .nil .nil) (.node (o49_9 P) .nil .nil)) (.node (o25_9 P) (.node (o41_9 P) .nil .nil) (.node (o57_9 P) .nil .nil))) (.node (o13_p P) (.node (o21_9 P) (.node (o37_9 P) .nil .nil) (.node (o53_9 P) .nil .nil)) (.node (o29_9 P) (.node (o45_9 P) .nil .nil) (.node (o61_9 P) .nil .nil))))) (.node (boot_o_2 P) (.node (boot_o_4 P) (.node (boot_o_8 P) (.node (o16_9 P) (.node (o32_9 P) .nil .nil) (.node (o48_9 P) .nil .nil)) (.node (o24_9 P) (.node (o40_9 P) .nil .nil) (.node (o56_9 P) .nil .nil))) (.node (o12_9 P) (.node (o20_9 P) (.node (o36_9 P) .nil .nil) (.node (o52_9 P) .nil .nil)) (.node (o28_9 P) (.node (o44_9 P) .nil .nil) (.node (o60_9 P) .nil .nil)))) (.node (boot_o_6 P) (.node (boot_o_10 P) (.node (o18_9 P) (.node (o34_9 P) .nil .nil) (.node (o50_9 P) .nil .nil)) (.node (o26_9 P) (.node (o42_9 P) .nil .nil) (.node (o58_9 P) .nil .nil))) (.node (o14_p P) (.node (o22_9 P) (.node (o38_9 P) .nil .nil) (.node (o54_9 P) .nil .nil)) (.node (o30_9 P) (.node (o46_9 P) .nil .nil) (.node (o62_9 P) .nil .nil))))))
noncomputable abbrev n9 : Nat := 64
noncomputable abbrev tk9 : Nat := 249
noncomputable abbrev pos9 : Pos := ⟨20, 0, 20, 8⟩
-- steps up to 9: 230
noncomputable def o3_10 (P : Params) : Obj := ⟨.type "dict", none, .dict #[en P "__name__" 165 (sv "cpy313.stringprep" 247), en P "__doc__" 166 .none, en P "__package__" 167 .none, en P "__loader__" 168 (.builtin "__main__.__loader__#opaque"), en P "__spec__" 169 .none, en P "__annotations__" 170 (.ref 6), en P "__builtins__" 171 (.ref 4), en P "__file__" 173 (sv "/claim/cut.py" 172), en P "__cached__" 174 .none, en P "le" 196 (.ref 21), en P "ge" 204 (.ref 28), en P "add" 212 (.ref 35), en P "sub" 220 (.ref 42), en P "contains" 228 (.ref 49), en P "getitem" 236 (.ref 56), en P "indexOf" 246 (.ref 63), en P "b1_set" 308 (.ref 71)] 17, #[]⟩
noncomputable def o64_10 (P : Params) : Obj := ⟨.type "list", none, .seq #[.int 173 249, .int 847 250, .int 6150 251, .int 6155 252, .int 6156 253, .int 6157 254, .int 8203 255, .int 8204 256, .int 8205 257, .int 8288 258, .int 65279 259] 0, #[]⟩
noncomputable def o65_10 (P : Params) : Obj := ⟨.type "range", none, .fields #[.int 65024 260, .int 65040 261, .int 1 262], #[]⟩
noncomputable def o66_10 (P : Params) : Obj := ⟨.type "list", none, .seq #[.int 65024 265, .int 65025 266, .int 65026 267, .int 65027 268, .int 65028 269, .int 65029 270, .int 65030 271, .int 65031 272, .int 65032 273, .int 65033 274, .int 65034 275, .int 65035 276, .int 65036 277, .int 65037 278, .int 65038 279, .int 65039 280] 18, #[]⟩
noncomputable def o67_10 (P : Params) : Obj := ⟨.type "range_iterator", none, .fields #[.int 65040 0, .int 0 0, .int 1 0], #[]⟩
noncomputable def o68_10 (P : Params) : Obj := ⟨.type "tuple", none, .seq #[] 0, #[]⟩
noncomputable def o69_10 (P : Params) : Obj := ⟨.type "StopIteration", none, .fields #[.ref 68, .none, .none, .none, .bool false, .none], #[]⟩
noncomputable def o70_10 (P : Params) : Obj := ⟨.type "list", none, .seq #[.int 173 249, .int 847 250, .int 6150 251, .int 6155 252, .int 6156 253, .int 6157 254, .int 8203 255, .int 8204 256, .int 8205 257, .int 8288 258, .int 65279 259, .int 65024 265, .int 65025 266, .int 65026 267, .int 65027 268, .int 65028 269, .int 65029 270, .int 65030 271, .int 65031 272, .int 65032 273, .int 65033 274, .int 65034 275, .int 65035 276, .int 65036 277, .int 65037 278, .int 65038 279, .int 65039 280] 0, #[]⟩
noncomputable def o71_10 (P : Params) : Obj := ⟨.type "set", none, .set #[(65024, .int 65024 265), (65025, .int 65025 266), (65026, .int 65026 267), (65027, .int 65027 268), (65028, .int 65028 269), (65029, .int 65029 270), (6150, .int 6150 251), (65030, .int 65030 271), (65031, .int 65031 272), (65032, .int 65032 273), (65033, .int 65033 274), (6155, .int 6155 252), (6156, .int 6156 253), (6157, .int 6157 254), (8203, .int 8203 255), (8204, .int 8204 256), (8205, .int 8205 257), (65034, .int 65034 275), (65035, .int 65035 276), (65036, .int 65036 277), (65037, .int 65037 278), (65038, .int 65038 279), (65039, .int 65039 280), (173, .int 173 249), (847, .int 847 250), (8288, .int 8288 258), (65279, .int 65279 259)] 29 ⟨127, #[0, 1, 2, 3, 4, 5, 6, 7, 8, 9, 10, 11, 12, 13, 14, 15, 16, 17, 18, 19, 20, 21, 22, 45, 79, 96, 127], #[], 0, !P.followText "set-order", 2, true⟩, #[]⟩
noncomputable def o72_10 (P : Params) : Obj := ⟨.type "list_iterator", none, .fields #[.none, .int 27 0], #[]⟩
noncomputable def o73_10 (P : Params) : Obj := ⟨.type "tuple", none, .seq #[] 0, #[]⟩
noncomputable def o74_10 (P : Params) : Obj := ⟨.type "StopIteration", none, .fields #[.ref 73, .none, .none, .none, .bool false, .none], #[]⟩
noncomputable def T10 (P : Params) : BT := (.node (boot_o_0 P) (.node (boot_o_1 P) (.node (o3_10 P) (.node (boot_o_7 P) (.node (o15_9 P) (.node (o31_9 P) (.node (o63_9 P) .nil .nil) .nil) (.node (o47_9 P) .nil .nil)) (.node (o23_9 P) (.node (o39_9 P) (.node (o71_10 P) .nil .nil) .nil) (.node (o55_9 P) .nil .nil))) (.node (o11_p P) (.node (o19_9 P) (.node (o35_9 P) (.node (o67_10 P) .nil .nil) .nil) (.node (o51_9 P) .nil .nil)) (.node (o27_9 P) (.node (o43_9 P) .nil .nil) (.node (o59_9 P) .nil .nil)))) (.node (boot_o_5 P) (.node (boot_o_9 P) (.node (o17_9 P) (.node (o33_9 P) (.node (o65_10 P) .nil .nil) .nil) (.node (o49_9 P) .nil .nil)) (.node (o25_9 P) (.node (o41_9 P) (.node (o73_10 P) .nil .nil) .nil) (.node (o57_9 P) .nil .nil))) (.node (o13_p P) (.node (o21_9 P) (.node (o37_9 P) (.node (o69_10 P) .nil .nil) .nil) (.node (o53_9 P) .nil .nil)) (.node (o29_9 P) (.node (o45_9 P) .nil .nil) (.node (o61_9 P) .nil .nil))))) (.node (boot_o_2 P) (.node (boot_o_4 P) (.node (boot_o_8 P) (.node (o16_9 P) (.node (o32_9 P) (.node (o64_10 P) .nil .nil) .nil) (.node (o48_9 P) .nil .nil)) (.node (o24_9 P) (.node (o40_9 P) (.node (o72_10 P) .nil .nil) .nil) (.node (o56_9 P) .nil .nil))) (.node (o12_9 P) (.node (o20_9 P) (.node (o36_9 P) (.node (o68_10 P) .nil .nil) .nil) (.node (o52_9 P) .nil .nil)) (.node (o28_9 P) (.node (o44_9 P) .nil .nil) (.node (o60_9 P) .nil .nil)))) (.node (boot_o_6 P) (.node (boot_o_10 P) (.node (o18_9 P) (.node (o34_9 P) (.node (o66_10 P) .nil .nil) .nil) (.node (o50_9 P) .nil .nil)) (.node (o26_9 P) (.node (o42_9 P) (.node (o74_10 P) .nil .nil) .nil) (.node (o58_9 P) .nil .nil))) (.node (o14_p P) (.node (o22_9 P) (.node (o38_9 P) (.node (o70_10 P) .nil .nil) .nil) (.node (o54_9 P) .nil .nil)) (.node (o30_9 P) (.node (o46_9 P) .nil .nil) (.node (o62_9 P) .nil .nil))))))
noncomputable abbrev n10 : Nat := 75
noncomputable abbrev tk10 : Nat := 309
noncomputable abbrev pos10 : Pos := ⟨21, 0, 21, 6⟩
-- steps up to 10: 1228
noncomputable def o3_11 (P : Params) : Obj := ⟨.type "dict", none, .dict #[en P "__name__" 165 (sv "cpy313.stringprep" 247), en P "__doc__" 166 .none, en P "__package__" 167 .none, en P "__loader__" 168 (.builtin "__main__.__loader__#opaque"), en P "__spec__" 169 .none, en P "__annotations__" 170 (.ref 6), en P "__builtins__" 171 (.ref 4), en P "__file__" 173 (sv "/claim/cut.py" 172), en P "__cached__" 174 .none, en P "le" 196 (.ref 21), en P "ge" 204 (.ref 28), en P "add" 212 (.ref 35), en P "sub" 220 (.ref 42), en P "contains" 228 (.ref 49), en P "getitem" 236 (.ref 56), en P "indexOf" 246 (.ref 63), en P "b1_set" 308 (.ref 71), en P "in_table_b1" 315 (.ref 81)] 18, #[]⟩
noncomputable def o12_11 (P : Params) : Obj := ⟨.none, none, .fields #[.int 2 0, .int 0 0, .ref 20, .int 4 0, .int 0 0, .ref 27, .int 6 0, .int 0 0, .ref 34, .int 8 0, .int 0 0, .ref 41, .int 10 0, .int 0 0, .ref 48, .int 12 0, .int 0 0, .ref 55, .int 14 0, .int 0 0, .ref 62, .int 22 0, .int 0 0, .ref 80], #[]⟩
noncomputable def o75_11 (P : Params) : Obj := ⟨.type "tuple", none, .seq #[] 0, #[]⟩
noncomputable def o76_11 (P : Params) : Obj := ⟨.none, none, .fields #[], #[]⟩
noncomputable def o77_11 (P : Params) : Obj := ⟨.type "tuple", none, .seq #[sv "code" 312] 0, #[]⟩
noncomputable def o78_11 (P : Params) : Obj := ⟨.type "tuple", none, .seq #[] 0, #[]⟩
noncomputable def o79_11 (P : Params) : Obj := ⟨.none, none, fnD 10 0 .none .none, #[]⟩
noncomputable def o80_11 (P : Params) : Obj := ⟨.type "code", none, .fields #[sv "in_table_b1" 309, sv "in_table_b1" 310, sv "/claim/cut.py" 311, .int 22 0, .int 1 0, .int 0 0, .int 0 0, .int 3 0, .ref 75, .bool true, .int 181 0, .ref 76, .none, .ref 77, .ref 78, .ref 79, .int 313 0, .int 22 0, sv "/claim/cut.py" 314], #[]⟩
noncomputable def o81_11 (P : Params) : Obj := ⟨.type "function", none, fnD 10 3 (sv "cpy313.stringprep" 247) (.ref 80), #[]⟩
noncomputable def T11 (P : Params) : BT := (.node (boot_o_0 P) (.node (boot_o_1 P) (.node (o3_11 P) (.node (boot_o_7 P) (.node (o15_9 P) (.node (o31_9 P) (.node (o63_9 P) .nil .nil) .nil) (.node (o47_9 P) (.node (o79_11 P) .nil .nil) .nil)) (.node (o23_9 P) (.node (o39_9 P) (.node (o71_10 P) .nil .nil) .nil) (.node (o55_9 P) .nil .nil))) (.node (o11_p P) (.node (o19_9 P) (.node (o35_9 P) (.node (o67_10 P) .nil .nil) .nil) (.node (o51_9 P) .nil .nil)) (.node (o27_9 P) (.node (o43_9 P) (.node (o75_11 P) .nil .nil) .nil) (.node (o59_9 P) .nil .nil)))) (.node (boot_o_5 P) (.node (boot_o_9 P) (.node (o17_9 P) (.node (o33_9 P) (.node (o65_10 P) .nil .nil) .nil) (.node (o49_9 P) (.node (o81_11 P) .nil .nil) .nil)) (.node (o25_9 P) (.node (o41_9 P) (.node (o73_10 P) .nil .nil) .nil) (.node (o57_9 P) .nil .nil))) (.node (o13_p P) (.node (o21_9 P) (.node (o37_9 P) (.node (o69_10 P) .nil .nil) .nil) (.node (o53_9 P) .nil .nil)) (.node (o29_9 P) (.node (o45_9 P) (.node (o77_11 P) .nil .nil) .nil) (.node (o61_9 P) .nil .nil))))) (.node (boot_o_2 P) (.node (boot_o_4 P) (.node (boot_o_8 P) (.node (o16_9 P) (.node (o32_9 P) (.node (o64_10 P) .nil .nil) .nil) (.node (o48_9 P) (.node (o80_11 P) .nil .nil) .nil)) (.node (o24_9 P) (.node (o40_9 P) (.node (o72_10 P) .nil .nil) .nil) (.node (o56_9 P) .nil .nil))) (.node (o12_11 P) (.node (o20_9 P) (.node (o36_9 P) (.node (o68_10 P) .nil .nil) .nil) (.node (o52_9 P) .nil .nil)) (.node (o28_9 P) (.node (o44_9 P) (.node (o76_11 P) .nil .nil) .nil) (.node (o60_9 P) .nil .nil)))) (.node (boot_o_6 P) (.node (boot_o_10 P) (.node (o18_9 P) (.node (o34_9 P) (.node (o66_10 P) .nil .nil) .nil) (.node (o50_9 P) .nil .nil)) (.node (o26_9 P) (.node (o42_9 P) (.node (o74_10 P) .nil .nil) .nil) (.node (o58_9 P) .nil .nil))) (.node (o14_p P) (.node (o22_9 P) (.node (o38_9 P) (.node (o70_10 P) .nil .nil) .nil) (.node (o54_9 P) .nil .nil)) (.node (o30_9 P) (.node (o46_9 P) (.node (o78_11 P) .nil .nil) .nil) (.node (o62_9 P) .nil .nil))))))
noncomputable abbrev n11 : Nat := 82
noncomputable abbrev tk11 : Nat := 316
noncomputable abbrev pos11 : Pos := ⟨22, 0, 23, 30⟩
-- steps up to 11: 1257
noncomputable def o3_12 (P : Params) : Obj := ⟨.type "dict", none, .dict #[en P "__name__" 165 (sv "cpy313.stringprep" 247), en P "__doc__" 166 .none, en P "__package__" 167 .none, en P "__loader__" 168 (.builtin "__main__.__loader__#opaque"), en P "__spec__" 169 .none, en P "__annotations__" 170 (.ref 6), en P "__builtins__" 171 (.ref 4), en P "__file__" 173 (sv "/claim/cut.py" 172), en P "__cached__" 174 .none, en P "le" 196 (.ref 21), en P "ge" 204 (.ref 28), en P "add" 212 (.ref 35), en P "sub" 220 (.ref 42), en P "contains" 228 (.ref 49), en P "getitem" 236 (.ref 56), en P "indexOf" 246 (.ref 63), en P "b1_set" 308 (.ref 71), en P "in_table_b1" 315 (.ref 81), en P "b3_exceptions" 2266 (.ref 82)] 19, #[]⟩
noncomputable def o82_12 (P : Params) : Obj := dsp 0
noncomputable def o83_12 (P : Params) : Obj := dsp 1
noncomputable def o84_12 (P : Params) : Obj := dsp 2
noncomputable def o85_12 (P : Params) : Obj := dsp 3
noncomputable def o86_12 (P : Params) : Obj := dsp 4
noncomputable def o87_12 (P : Params) : Obj := dsp 5
noncomputable def o88_12 (P : Params) : Obj := dsp 6
noncomputable def o89_12 (P : Params) : Obj := dsp 7
noncomputable def o90_12 (P : Params) : Obj := dsp 8
noncomputable def o91_12 (P : Params) : Obj := dsp 9
noncomputable def o92_12 (P : Params) : Obj := dsp 10
noncomputable def o93_12 (P : Params) : Obj := dsp 11
noncomputable def o94_12 (P : Params) : Obj := dsp 12
noncomputable def o95_12 (P : Params) : Obj := dsp 13
noncomputable def o96_12 (P : Params) : Obj := dsp 14
noncomputable def o97_12 (P : Params) : Obj := dsp 15
noncomputable def o98_12 (P : Params) : Obj := dsp 16
noncomputable def o99_12 (P : Params) : Obj := dsp 17
noncomputable def o100_12 (P : Params) : Obj := dsp 18
noncomputable def o101_12 (P : Params) : Obj := dsp 19
noncomputable def o102_12 (P : Params) : Obj := dsp 20
noncomputable def o103_12 (P : Params) : Obj := dsp 21
noncomputable def o104_12 (P : Params) : Obj := dsp 22
noncomputable def o105_12 (P : Params) : Obj := dsp 23
noncomputable def o106_12 (P : Params) : Obj := dsp 24
noncomputable def o107_12 (P : Params) : Obj := dsp 25
noncomputable def o108_12 (P : Params) : Obj := dsp 26
noncomputable def o109_12 (P : Params) : Obj := dsp 27
noncomputable def o110_12 (P : Params) : Obj := dsp 28
noncomputable def o111_12 (P : Params) : Obj := dsp 29
noncomputable def o112_12 (P : Params) : Obj := dsp 30
noncomputable def o113_12 (P : Params) : Obj := dsp 31
noncomputable def o114_12 (P : Params) : Obj := dsp 32
noncomputable def o115_12 (P : Params) : Obj := dsp 33
noncomputable def o116_12 (P : Params) : Obj := dsp 34
noncomputable def o117_12 (P : Params) : Obj := dsp 35
noncomputable def o118_12 (P : Params) : Obj := dsp 36
noncomputable def o119_12 (P : Params) : Obj := dsp 37
noncomputable def o120_12 (P : Params) : Obj := dsp 38
noncomputable def T12 (P : Params) : BT := (.node (boot_o_0 P) (.node (boot_o_1 P) (.node (o3_12 P) (.node (boot_o_7 P) (.node (o15_9 P) (.node (o31_9 P) (.node (o63_9 P) .nil .nil) (.node (o95_12 P) .nil .nil)) (.node (o47_9 P) (.node (o79_11 P) .nil .nil) (.node (o111_12 P) .nil .nil))) (.node (o23_9 P) (.node (o39_9 P) (.node (o71_10 P) .nil .nil) (.node (o103_12 P) .nil .nil)) (.node (o55_9 P) (.node (o87_12 P) .nil .nil) (.node (o119_12 P) .nil .nil)))) (.node (o11_p P) (.node (o19_9 P) (.node (o35_9 P) (.node (o67_10 P) .nil .nil) (.node (o99_12 P) .nil .nil)) (.node (o51_9 P) (.node (o83_12 P) .nil .nil) (.node (o115_12 P) .nil .nil))) (.node (o27_9 P) (.node (o43_9 P) (.node (o75_11 P) .nil .nil) (.node (o107_12 P) .nil .nil)) (.node (o59_9 P) (.node (o91_12 P) .nil .nil) .nil)))) (.node (boot_o_5 P) (.node (boot_o_9 P) (.node (o17_9 P) (.node (o33_9 P) (.node (o65_10 P) .nil .nil) (.node (o97_12 P) .nil .nil)) (.node (o49_9 P) (.node (o81_11 P) .nil .nil) (.node (o113_12 P) .nil .nil))) (.node (o25_9 P) (.node (o41_9 P) (.node (o73_10 P) .nil .nil) (.node (o105_12 P) .nil .nil)) (.node (o57_9 P) (.node (o89_12 P) .nil .nil) .nil))) (.node (o13_p P) (.node (o21_9 P) (.node (o37_9 P) (.node (o69_10 P) .nil .nil) (.node (o101_12 P) .nil .nil)) (.node (o53_9 P) (.node (o85_12 P) .nil .nil) (.node (o117_12 P) .nil .nil))) (.node (o29_9 P) (.node (o45_9 P) (.node (o77_11 P) .nil .nil) (.node (o109_12 P) .nil .nil)) (.node (o61_9 P) (.node (o93_12 P) .nil .nil) .nil))))) (.node (boot_o_2 P) (.node (boot_o_4 P) (.node (boot_o_8 P) (.node (o16_9 P) (.node (o32_9 P) (.node (o64_10 P) .nil .nil) (.node (o96_12 P) .nil .nil)) (.node (o48_9 P) (.node (o80_11 P) .nil .nil) (.node (o112_12 P) .nil .nil))) (.node (o24_9 P) (.node (o40_9 P) (.node (o72_10 P) .nil .nil) (.node (o104_12 P) .nil .nil)) (.node (o56_9 P) (.node (o88_12 P) .nil .nil) (.node (o120_12 P) .nil .nil)))) (.node (o12_11 P) (.node (o20_9 P) (.node (o36_9 P) (.node (o68_10 P) .nil .nil) (.node (o100_12 P) .nil .nil)) (.node (o52_9 P) (.node (o84_12 P) .nil .nil) (.node (o116_12 P) .nil .nil))) (.node (o28_9 P) (.node (o44_9 P) (.node (o76_11 P) .nil .nil) (.node (o108_12 P) .nil .nil)) (.node (o60_9 P) (.node (o92_12 P) .nil .nil) .nil)))) (.node (boot_o_6 P) (.node (boot_o_10 P) (.node (o18_9 P) (.node (o34_9 P) (.node (o66_10 P) .nil .nil) (.node (o98_12 P) .nil .nil)) (.node (o50_9 P) (.node (o82_12 P) .nil .nil) (.node (o114_12 P) .nil .nil))) (.node (o26_9 P) (.node (o42_9 P) (.node (o74_10 P) .nil .nil) (.node (o106_12 P) .nil .nil)) (.node (o58_9 P) (.node (o90_12 P) .nil .nil) .nil))) (.node (o14_p P) (.node (o22_9 P) (.node (o38_9 P) (.node (o70_10 P) .nil .nil) (.node (o102_12 P) .nil .nil)) (.node (o54_9 P) (.node (o86_12 P) .nil .nil) (.node (o118_12 P) .nil .nil))) (.node (o30_9 P) (.node (o46_9 P) (.node (o78_11 P) .nil .nil) (.node (o110_12 P) .nil .nil)) (.node (o62_9 P) (.node (o94_12 P) .nil .nil) .nil))))))
noncomputable abbrev n12 : Nat := 121
noncomputable abbrev tk12 : Nat := 2267
noncomputable abbrev pos12 : Pos := ⟨24, 0, 24, 13⟩
-- steps up to 12: 13781
noncomputable def o3_63 (P : Params) : Obj := ⟨.type "dict", none, .dict #[en P "__name__" 165 (sv "cpy313.token" 2275), en P "__doc__" 166 .none, en P "__package__" 167 .none, en P "__loader__" 168 (.builtin "__main__.__loader__#opaque"), en P "__spec__" 169 .none, en P "__annotations__" 170 (.ref 6), en P "__builtins__" 171 (.ref 4), en P "__file__" 173 (sv "/claim/cut.py" 172), en P "__cached__" 174 .none, en P "le" 196 (.ref 21), en P "ge" 204 (.ref 28), en P "add" 212 (.ref 35), en P "sub" 220 (.ref 42), en P "contains" 228 (.ref 49), en P "getitem" 236 (.ref 56), en P "indexOf" 246 (.ref 63), en P "b1_set" 308 (.ref 71), en P "in_table_b1" 315 (.ref 81), en P "b3_exceptions" 2266 (.ref 82), en P "map_table_b3" 2274 (.ref 127), en P "LPAR" 2278 (.int 7 2277), en P "RPAR" 2280 (.int 8 2279), en P "LSQB" 2282 (.int 9 2281), en P "RSQB" 2284 (.int 10 2283), en P "COLON" 2286 (.int 11 2285), en P "COMMA" 2288 (.int 12 2287), en P "SEMI" 2290 (.int 13 2289), en P "PLUS" 2292 (.int 14 2291), en P "MINUS" 2294 (.int 15 2293), en P "STAR" 2296 (.int 16 2295), en P "SLASH" 2298 (.int 17 2297), en P "VBAR" 2300 (.int 18 2299), en P "AMPER" 2302 (.int 19 2301), en P "LESS" 2304 (.int 20 2303), en P "GREATER" 2306 (.int 21 2305), en P "EQUAL" 2308 (.int 22 2307), en P "DOT" 2310 (.int 23 2309), en P "PERCENT" 2312 (.int 24 2311), en P "LBRACE" 2314 (.int 25 2313), en P "RBRACE" 2316 (.int 26 2315), en P "EQEQUAL" 2318 (.int 27 2317), en P "NOTEQUAL" 2320 (.int 28 2319), en P "LESSEQUAL" 2322 (.int 29 2321), en P "GREATEREQUAL" 2324 (.int 30 2323), en P "TILDE" 2326 (.int 31 2325), en P "CIRCUMFLEX" 2328 (.int 32 2327), en P "LEFTSHIFT" 2330 (.int 33 2329), en P "RIGHTSHIFT" 2332 (.int 34 2331), en P "DOUBLESTAR" 2334 (.int 35 2333), en P "PLUSEQUAL" 2336 (.int 36 2335), en P "MINEQUAL" 2338 (.int 37 2337), en P "STAREQUAL" 2340 (.int 38 2339), en P "SLASHEQUAL" 2342 (.int 39 2341), en P "PERCENTEQUAL" 2344 (.int 40 2343), en P "AMPEREQUAL" 2346 (.int 41 2345), en P "VBAREQUAL" 2348 (.int 42 2347), en P "CIRCUMFLEXEQUAL" 2350 (.int 43 2349), en P "LEFTSHIFTEQUAL" 2352 (.int 44 2351), en P "RIGHTSHIFTEQUAL" 2354 (.int 45 2353), en P "DOUBLESTAREQUAL" 2356 (.int 46 2355), en P "DOUBLESLASH" 2358 (.int 47 2357), en P "DOUBLESLASHEQUAL" 2360 (.int 48 2359), en P "AT" 2362 (.int 49 2361), en P "ATEQUAL" 2364 (.int 50 2363), en P "RARROW" 2366 (.int 51 2365), en P "ELLIPSIS" 2368 (.int 52 2367), en P "COLONEQUAL" 2370 (.int 53 2369), en P "EXCLAMATION" 2372 (.int 54 2371), en P "NT_OFFSET" 2374 (.int 256 2373)] 69, #[]⟩
noncomputable def o12_63 (P : Params) : Obj := ⟨.none, none, .fields #[.int 2 0, .int 0 0, .ref 20, .int 4 0, .int 0 0, .ref 27, .int 6 0, .int 0 0, .ref 34, .int 8 0, .int 0 0, .ref 41, .int 10 0, .int 0 0, .ref 48, .int 12 0, .int 0 0, .ref 55, .int 14 0, .int 0 0, .ref 62, .int 22 0, .int 0 0, .ref 80, .int 25 0, .int 0 0, .ref 126], #[]⟩
noncomputable def o121_63 (P : Params) : Obj := ⟨.type "tuple", none, .seq #[] 0, #[]⟩
noncomputable def o122_63 (P : Params) : Obj := ⟨.none, none, .fields #[], #[]⟩
noncomputable def o123_63 (P : Params) : Obj := ⟨.type "tuple", none, .seq #[sv "code" 2270, sv "r" 2271] 0, #[]⟩
noncomputable def o124_63 (P : Params) : Obj := ⟨.type "tuple", none, .seq #[] 0, #[]⟩
noncomputable def o125_63 (P : Params) : Obj := ⟨.none, none, fnD 12 0 .none .none, #[]⟩
noncomputable def o126_63 (P : Params) : Obj := ⟨.type "code", none, .fields #[sv "map_table_b3" 2267, sv "map_table_b3" 2268, sv "/claim/cut.py" 2269, .int 25 0, .int 1 0, .int 0 0, .int 0 0, .int 3 0, .ref 121, .bool true, .int 181 0, .ref 122, .none, .ref 123, .ref 124, .ref 125, .int 2272 0, .int 25 0, sv "/claim/cut.py" 2273], #[]⟩
noncomputable def o127_63 (P : Params) : Obj := ⟨.type "function", none, fnD 12 3 (sv "cpy313.stringprep" 247) (.ref 126), #[]⟩
noncomputable def T63 (P : Params) : BT := (.node (boot_o_0 P) (.node (boot_o_1 P) (.node (o3_63 P) (.node (boot_o_7 P) (.node (o15_9 P) (.node (o31_9 P) (.node (o63_9 P) (.node (o127_63 P) .nil .nil) .nil) (.node (o95_12 P) .nil .nil)) (.node (o47_9 P) (.node (o79_11 P) .nil .nil) (.node (o111_12 P) .nil .nil))) (.node (o23_9 P) (.node (o39_9 P) (.node (o71_10 P) .nil .nil) (.node (o103_12 P) .nil .nil)) (.node (o55_9 P) (.node (o87_12 P) .nil .nil) (.node (o119_12 P) .nil .nil)))) (.node (o11_p P) (.node (o19_9 P) (.node (o35_9 P) (.node (o67_10 P) .nil .nil) (.node (o99_12 P) .nil .nil)) (.node (o51_9 P) (.node (o83_12 P) .nil .nil) (.node (o115_12 P) .nil .nil))) (.node (o27_9 P) (.node (o43_9 P) (.node (o75_11 P) .nil .nil) (.node (o107_12 P) .nil .nil)) (.node (o59_9 P) (.node (o91_12 P) .nil .nil) (.node (o123_63 P) .nil .nil))))) (.node (boot_o_5 P) (.node (boot_o_9 P) (.node (o17_9 P) (.node (o33_9 P) (.node (o65_10 P) .nil .nil) (.node (o97_12 P) .nil .nil)) (.node (o49_9 P) (.node (o81_11 P) .nil .nil) (.node (o113_12 P) .nil .nil))) (.node (o25_9 P) (.node (o41_9 P) (.node (o73_10 P) .nil .nil) (.node (o105_12 P) .nil .nil)) (.node (o57_9 P) (.node (o89_12 P) .nil .nil) (.node (o121_63 P) .nil .nil)))) (.node (o13_p P) (.node (o21_9 P) (.node (o37_9 P) (.node (o69_10 P) .nil .nil) (.node (o101_12 P) .nil .nil)) (.node (o53_9 P) (.node (o85_12 P) .nil .nil) (.node (o117_12 P) .nil .nil))) (.node (o29_9 P) (.node (o45_9 P) (.node (o77_11 P) .nil .nil) (.node (o109_12 P) .nil .nil)) (.node (o61_9 P) (.node (o93_12 P) .nil .nil) (.node (o125_63 P) .nil .nil)))))) (.node (boot_o_2 P) (.node (boot_o_4 P) (.node (boot_o_8 P) (.node (o16_9 P) (.node (o32_9 P) (.node (o64_10 P) .nil .nil) (.node (o96_12 P) .nil .nil)) (.node (o48_9 P) (.node (o80_11 P) .nil .nil) (.node (o112_12 P) .nil .nil))) (.node (o24_9 P) (.node (o40_9 P) (.node (o72_10 P) .nil .nil) (.node (o104_12 P) .nil .nil)) (.node (o56_9 P) (.node (o88_12 P) .nil .nil) (.node (o120_12 P) .nil .nil)))) (.node (o12_63 P) (.node (o20_9 P) (.node (o36_9 P) (.node (o68_10 P) .nil .nil) (.node (o100_12 P) .nil .nil)) (.node (o52_9 P) (.node (o84_12 P) .nil .nil) (.node (o116_12 P) .nil .nil))) (.node (o28_9 P) (.node (o44_9 P) (.node (o76_11 P) .nil .nil) (.node (o108_12 P) .nil .nil)) (.node (o60_9 P) (.node (o92_12 P) .nil .nil) (.node (o124_63 P) .nil .nil))))) (.node (boot_o_6 P) (.node (boot_o_10 P) (.node (o18_9 P) (.node (o34_9 P) (.node (o66_10 P) .nil .nil) (.node (o98_12 P) .nil .nil)) (.node (o50_9 P) (.node (o82_12 P) .nil .nil) (.node (o114_12 P) .nil .nil))) (.node (o26_9 P) (.node (o42_9 P) (.node (o74_10 P) .nil .nil) (.node (o106_12 P) .nil .nil)) (.node (o58_9 P) (.node (o90_12 P) .nil .nil) (.node (o122_63 P) .nil .nil)))) (.node (o14_p P) (.node (o22_9 P) (.node (o38_9 P) (.node (o70_10 P) .nil .nil) (.node (o102_12 P) .nil .nil)) (.node (o54_9 P) (.node (o86_12 P) .nil .nil) (.node (o118_12 P) .nil .nil))) (.node (o30_9 P) (.node (o46_9 P) (.node (o78_11 P) .nil .nil) (.node (o110_12 P) .nil .nil)) (.node (o62_9 P) (.node (o94_12 P) .nil .nil) (.node (o126_63 P) .nil .nil)))))))
noncomputable abbrev n63 : Nat := 128
noncomputable abbrev tk63 : Nat := 2375
noncomputable abbrev pos63 : Pos := ⟨79, 0, 79, 9⟩
-- steps up to 63: 14261
noncomputable def o3_64 (P : Params) : Obj := ⟨.type "dict", none, .dict #[en P "__name__" 165 (sv "cpy313.token" 2275), en P "__doc__" 166 .none, en P "__package__" 167 .none, en P "__loader__" 168 (.builtin "__main__.__loader__#opaque"), en P "__spec__" 169 .none, en P "__annotations__" 170 (.ref 6), en P "__builtins__" 171 (.ref 4), en P "__file__" 173 (sv "/claim/cut.py" 172), en P "__cached__" 174 .none, en P "le" 196 (.ref 21), en P "ge" 204 (.ref 28), en P "add" 212 (.ref 35), en P "sub" 220 (.ref 42), en P "contains" 228 (.ref 49), en P "getitem" 236 (.ref 56), en P "indexOf" 246 (.ref 63), en P "b1_set" 308 (.ref 71), en P "in_table_b1" 315 (.ref 81), en P "b3_exceptions" 2266 (.ref 82), en P "map_table_b3" 2274 (.ref 127), en P "LPAR" 2278 (.int 7 2277), en P "RPAR" 2280 (.int 8 2279), en P "LSQB" 2282 (.int 9 2281), en P "RSQB" 2284 (.int 10 2283), en P "COLON" 2286 (.int 11 2285), en P "COMMA" 2288 (.int 12 2287), en P "SEMI" 2290 (.int 13 2289), en P "PLUS" 2292 (.int 14 2291), en P "MINUS" 2294 (.int 15 2293), en P "STAR" 2296 (.int 16 2295), en P "SLASH" 2298 (.int 17 2297), en P "VBAR" 2300 (.int 18 2299), en P "AMPER" 2302 (.int 19 2301), en P "LESS" 2304 (.int 20 2303), en P "GREATER" 2306 (.int 21 2305), en P "EQUAL" 2308 (.int 22 2307), en P "DOT" 2310 (.int 23 2309), en P "PERCENT" 2312 (.int 24 2311), en P "LBRACE" 2314 (.int 25 2313), en P "RBRACE" 2316 (.int 26 2315), en P "EQEQUAL" 2318 (.int 27 2317), en P "NOTEQUAL" 2320 (.int 28 2319), en P "LESSEQUAL" 2322 (.int 29 2321), en P "GREATEREQUAL" 2324 (.int 30 2323), en P "TILDE" 2326 (.int 31 2325), en P "CIRCUMFLEX" 2328 (.int 32 2327), en P "LEFTSHIFT" 2330 (.int 33 2329), en P "RIGHTSHIFT" 2332 (.int 34 2331), en P "DOUBLESTAR" 2334 (.int 35 2333), en P "PLUSEQUAL" 2336 (.int 36 2335), en P "MINEQUAL" 2338 (.int 37 2337), en P "STAREQUAL" 2340 (.int 38 2339), en P "SLASHEQUAL" 2342 (.int 39 2341), en P "PERCENTEQUAL" 2344 (.int 40 2343), en P "AMPEREQUAL" 2346 (.int 41 2345), en P "VBAREQUAL" 2348 (.int 42 2347), en P "CIRCUMFLEXEQUAL" 2350 (.int 43 2349), en P "LEFTSHIFTEQUAL" 2352 (.int 44 2351), en P "RIGHTSHIFTEQUAL" 2354 (.int 45 2353), en P "DOUBLESTAREQUAL" 2356 (.int 46 2355), en P "DOUBLESLASH" 2358 (.int 47 2357), en P "DOUBLESLASHEQUAL" 2360 (.int 48 2359), en P "AT" 2362 (.int 49 2361), en P "ATEQUAL" 2364 (.int 50 2363), en P "RARROW" 2366 (.int 51 2365), en P "ELLIPSIS" 2368 (.int 52 2367), en P "COLONEQUAL" 2370 (.int 53 2369), en P "EXCLAMATION" 2372 (.int 54 2371), en P "NT_OFFSET" 2374 (.int 256 2373), en P "EXACT_TOKEN_TYPES" 2471 (.ref 128)] 70, #[]⟩
noncomputable def o128_64 (P : Params) : Obj := ⟨.type "dict", none, .dict #[en P "!" 2375 (.int 54 2371), en P "!=" 2377 (.int 28 2319), en P "%" 2379 (.int 24 2311), en P "%=" 2381 (.int 40 2343), en P "&" 2383 (.int 19 2301), en P "&=" 2385 (.int 41 2345), en P "(" 2387 (.int 7 2277), en P ")" 2389 (.int 8 2279), en P "*" 2391 (.int 16 2295), en P "**" 2393 (.int 35 2333), en P "**=" 2395 (.int 46 2355), en P "*=" 2397 (.int 38 2339), en P "+" 2399 (.int 14 2291), en P "+=" 2401 (.int 36 2335), en P "," 2403 (.int 12 2287), en P "-" 2405 (.int 15 2293), en P "-=" 2407 (.int 37 2337), en P "->" 2409 (.int 51 2365), en P "." 2411 (.int 23 2309), en P "..." 2413 (.int 52 2367), en P "/" 2415 (.int 17 2297), en P "//" 2417 (.int 47 2357), en P "//=" 2419 (.int 48 2359), en P "/=" 2421 (.int 39 2341), en P ":" 2423 (.int 11 2285), en P ":=" 2425 (.int 53 2369), en P ";" 2427 (.int 13 2289), en P "<" 2429 (.int 20 2303), en P "<<" 2431 (.int 33 2329), en P "<<=" 2433 (.int 44 2351), en P "<=" 2435 (.int 29 2321), en P "=" 2437 (.int 22 2307), en P "==" 2439 (.int 27 2317), en P ">" 2441 (.int 21 2305), en P ">=" 2443 (.int 30 2323), en P ">>" 2444 (.int 34 2331), en P ">>=" 2445 (.int 45 2353), en P "@" 2446 (.int 49 2361), en P "@=" 2447 (.int 50 2363), en P "[" 2448 (.int 9 2281), en P "]" 2449 (.int 10 2283), en P "^" 2450 (.int 32 2327), en P "^=" 2451 (.int 43 2349), en P "{" 2452 (.int 25 2313), en P "|" 2453 (.int 18 2299), en P "|=" 2454 (.int 42 2347), en P "}" 2455 (.int 26 2315), en P "~" 2456 (.int 31 2325)] 48, #[]⟩
noncomputable def o129_64 (P : Params) : Obj := ⟨.type "dict", none, .dict #[en P "->" 2409 (.int 51 2365), en P "." 2411 (.int 23 2309), en P "..." 2413 (.int 52 2367), en P "/" 2415 (.int 17 2297), en P "//" 2417 (.int 47 2357), en P "//=" 2419 (.int 48 2359), en P "/=" 2421 (.int 39 2341), en P ":" 2423 (.int 11 2285), en P ":=" 2425 (.int 53 2369), en P ";" 2427 (.int 13 2289), en P "<" 2429 (.int 20 2303), en P "<<" 2431 (.int 33 2329), en P "<<=" 2433 (.int 44 2351), en P "<=" 2435 (.int 29 2321), en P "=" 2437 (.int 22 2307), en P "==" 2439 (.int 27 2317), en P ">" 2441 (.int 21 2305)] 17, #[]⟩
noncomputable def o130_64 (P : Params) : Obj := ⟨.type "dict", none, .dict #[en P ">=" 2443 (.int 30 2323), en P ">>" 2444 (.int 34 2331), en P ">>=" 2445 (.int 45 2353), en P "@" 2446 (.int 49 2361), en P "@=" 2447 (.int 50 2363), en P "[" 2448 (.int 9 2281), en P "]" 2449 (.int 10 2283), en P "^" 2450 (.int 32 2327), en P "^=" 2451 (.int 43 2349), en P "{" 2452 (.int 25 2313), en P "|" 2453 (.int 18 2299), en P "|=" 2454 (.int 42 2347), en P "}" 2455 (.int 26 2315), en P "~" 2456 (.int 31 2325)] 14, #[]⟩
noncomputable def T64 (P : Params) : BT := (.node (boot_o_0 P) (.node (boot_o_1 P) (.node (o3_64 P) (.node (boot_o_7 P) (.node (o15_9 P) (.node (o31_9 P) (.node (o63_9 P) (.node (o127_63 P) .nil .nil) .nil) (.node (o95_12 P) .nil .nil)) (.node (o47_9 P) (.node (o79_11 P) .nil .nil) (.node (o111_12 P) .nil .nil))) (.node (o23_9 P) (.node (o39_9 P) (.node (o71_10 P) .nil .nil) (.node (o103_12 P) .nil .nil)) (.node (o55_9 P) (.node (o87_12 P) .nil .nil) (.node (o119_12 P) .nil .nil)))) (.node (o11_p P) (.node (o19_9 P) (.node (o35_9 P) (.node (o67_10 P) .nil .nil) (.node (o99_12 P) .nil .nil)) (.node (o51_9 P) (.node (o83_12 P) .nil .nil) (.node (o115_12 P) .nil .nil))) (.node (o27_9 P) (.node (o43_9 P) (.node (o75_11 P) .nil .nil) (.node (o107_12 P) .nil .nil)) (.node (o59_9 P) (.node (o91_12 P) .nil .nil) (.node (o123_63 P) .nil .nil))))) (.node (boot_o_5 P) (.node (boot_o_9 P) (.node (o17_9 P) (.node (o33_9 P) (.node (o65_10 P) (.node (o129_64 P) .nil .nil) .nil) (.node (o97_12 P) .nil .nil)) (.node (o49_9 P) (.node (o81_11 P) .nil .nil) (.node (o113_12 P) .nil .nil))) (.node (o25_9 P) (.node (o41_9 P) (.node (o73_10 P) .nil .nil) (.node (o105_12 P) .nil .nil)) (.node (o57_9 P) (.node (o89_12 P) .nil .nil) (.node (o121_63 P) .nil .nil)))) (.node (o13_p P) (.node (o21_9 P) (.node (o37_9 P) (.node (o69_10 P) .nil .nil) (.node (o101_12 P) .nil .nil)) (.node (o53_9 P) (.node (o85_12 P) .nil .nil) (.node (o117_12 P) .nil .nil))) (.node (o29_9 P) (.node (o45_9 P) (.node (o77_11 P) .nil .nil) (.node (o109_12 P) .nil .nil)) (.node (o61_9 P) (.node (o93_12 P) .nil .nil) (.node (o125_63 P) .nil .nil)))))) (.node (boot_o_2 P) (.node (boot_o_4 P) (.node (boot_o_8 P) (.node (o16_9 P) (.node (o32_9 P) (.node (o64_10 P) (.node (o128_64 P) .nil .nil) .nil) (.node (o96_12 P) .nil .nil)) (.node (o48_9 P) (.node (o80_11 P) .nil .nil) (.node (o112_12 P) .nil .nil))) (.node (o24_9 P) (.node (o40_9 P) (.node (o72_10 P) .nil .nil) (.node (o104_12 P) .nil .nil)) (.node (o56_9 P) (.node (o88_12 P) .nil .nil) (.node (o120_12 P) .nil .nil)))) (.node (o12_63 P) (.node (o20_9 P) (.node (o36_9 P) (.node (o68_10 P) .nil .nil) (.node (o100_12 P) .nil .nil)) (.node (o52_9 P) (.node (o84_12 P) .nil .nil) (.node (o116_12 P) .nil .nil))) (.node (o28_9 P) (.node (o44_9 P) (.node (o76_11 P) .nil .nil) (.node (o108_12 P) .nil .nil)) (.node (o60_9 P) (.node (o92_12 P) .nil .nil) (.node (o124_63 P) .nil .nil))))) (.node (boot_o_6 P) (.node (boot_o_10 P) (.node (o18_9 P) (.node (o34_9 P) (.node (o66_10 P) (.node (o130_64 P) .nil .nil) .nil) (.node (o98_12 P) .nil .nil)) (.node (o50_9 P) (.node (o82_12 P) .nil .nil) (.node (o114_12 P) .nil .nil))) (.node (o26_9 P) (.node (o42_9 P) (.node (o74_10 P) .nil .nil) (.node (o106_12 P) .nil .nil)) (.node (o58_9 P) (.node (o90_12 P) .nil .nil) (.node (o122_63 P) .nil .nil)))) (.node (o14_p P) (.node (o22_9 P) (.node (o38_9 P) (.node (o70_10 P) .nil .nil) (.node (o102_12 P) .nil .nil)) (.node (o54_9 P) (.node (o86_12 P) .nil .nil) (.node (o118_12 P) .nil .nil))) (.node (o30_9 P) (.node (o46_9 P) (.node (o78_11 P) .nil .nil) (.node (o110_12 P) .nil .nil)) (.node (o62_9 P) (.node (o94_12 P) .nil .nil) (.node (o126_63 P) .nil .nil)))))))
noncomputable abbrev n64 : Nat := 131
noncomputable abbrev tk64 : Nat := 2472
noncomputable abbrev pos64 : Pos := ⟨80, 0, 80, 17⟩
-- steps up to 64: 15239
noncomputable def o3_78 (P : Params) : Obj := ⟨.type "dict", none, .dict #[en P "__name__" 165 (sv "law_wf0081_01" 2479), en P "__doc__" 166 .none, en P "__package__" 167 .none, en P "__loader__" 168 (.builtin "__main__.__loader__#opaque"), en P "__spec__" 169 .none, en P "__annotations__" 170 (.ref 6), en P "__builtins__" 171 (.ref 4), en P "__file__" 173 (sv "/claim/cut.py" 172), en P "__cached__" 174 .none, en P "le" 196 (.ref 21), en P "ge" 204 (.ref 28), en P "add" 212 (.ref 35), en P "sub" 220 (.ref 42), en P "contains" 228 (.ref 49), en P "getitem" 236 (.ref 56), en P "indexOf" 246 (.ref 63), en P "b1_set" 308 (.ref 71), en P "in_table_b1" 315 (.ref 81), en P "b3_exceptions" 2266 (.ref 82), en P "map_table_b3" 2274 (.ref 127), en P "LPAR" 2278 (.int 7 2277), en P "RPAR" 2280 (.int 8 2279), en P "LSQB" 2282 (.int 9 2281), en P "RSQB" 2284 (.int 10 2283), en P "COLON" 2286 (.int 11 2285), en P "COMMA" 2288 (.int 12 2287), en P "SEMI" 2290 (.int 13 2289), en P "PLUS" 2292 (.int 14 2291), en P "MINUS" 2294 (.int 15 2293), en P "STAR" 2296 (.int 16 2295), en P "SLASH" 2298 (.int 17 2297), en P "VBAR" 2300 (.int 18 2299), en P "AMPER" 2302 (.int 19 2301), en P "LESS" 2304 (.int 20 2303), en P "GREATER" 2306 (.int 21 2305), en P "EQUAL" 2308 (.int 22 2307), en P "DOT" 2310 (.int 23 2309), en P "PERCENT" 2312 (.int 24 2311), en P "LBRACE" 2314 (.int 25 2313), en P "RBRACE" 2316 (.int 26 2315), en P "EQEQUAL" 2318 (.int 27 2317), en P "NOTEQUAL" 2320 (.int 28 2319), en P "LESSEQUAL" 2322 (.int 29 2321), en P "GREATEREQUAL" 2324 (.int 30 2323), en P "TILDE" 2326 (.int 31 2325), en P "CIRCUMFLEX" 2328 (.int 32 2327), en P "LEFTSHIFT" 2330 (.int 33 2329), en P "RIGHTSHIFT" 2332 (.int 34 2331), en P "DOUBLESTAR" 2334 (.int 35 2333), en P "PLUSEQUAL" 2336 (.int 36 2335), en P "MINEQUAL" 2338 (.int 37 2337), en P "STAREQUAL" 2340 (.int 38 2339), en P "SLASHEQUAL" 2342 (.int 39 2341), en P "PERCENTEQUAL" 2344 (.int 40 2343), en P "AMPEREQUAL" 2346 (.int 41 2345), en P "VBAREQUAL" 2348 (.int 42 2347), en P "CIRCUMFLEXEQUAL" 2350 (.int 43 2349), en P "LEFTSHIFTEQUAL" 2352 (.int 44 2351), en P "RIGHTSHIFTEQUAL" 2354 (.int 45 2353), en P "DOUBLESTAREQUAL" 2356 (.int 46 2355), en P "DOUBLESLASH" 2358 (.int 47 2357), en P "DOUBLESLASHEQUAL" 2360 (.int 48 2359), en P "AT" 2362 (.int 49 2361), en P "ATEQUAL" 2364 (.int 50 2363), en P "RARROW" 2366 (.int 51 2365), en P "ELLIPSIS" 2368 (.int 52 2367), en P "COLONEQUAL" 2370 (.int 53 2369), en P "EXCLAMATION" 2372 (.int 54 2371), en P "NT_OFFSET" 2374 (.int 256 2373), en P "EXACT_TOKEN_TYPES" 2471 (.ref 128), en P "ISNONTERMINAL" 2478 (.ref 137), en P "_law_tree" 2486 (.ref 142), en P "_law_plain" 2493 (.ref 149), en P "_law_written" 2507 (.ref 156), en P "_law_outer" 2524 (.ref 163), en P "_law_put" 2538 (.ref 170), en P "_law_inner" 2551 (.ref 177), en P "_law_read" 2561 (.ref 184), en P "_law_shown" 2567 (.ref 189), en P "_law_heads" 2578 (.ref 196), en P "_law_behind" 2588 (.ref 203), en P "_law_stepped" 2607 (.ref 210), en P "law" 2613 (.ref 215)] 83, #[]⟩
noncomputable def o12_78 (P : Params) : Obj := ⟨.none, none, .fields #[.int 2 0, .int 0 0, .ref 20, .int 4 0, .int 0 0, .ref 27, .int 6 0, .int 0 0, .ref 34, .int 8 0, .int 0 0, .ref 41, .int 10 0, .int 0 0, .ref 48, .int 12 0, .int 0 0, .ref 55, .int 14 0, .int 0 0, .ref 62, .int 22 0, .int 0 0, .ref 80, .int 25 0, .int 0 0, .ref 126, .int 81 0, .int 0 0, .ref 136, .int 84 0, .int 0 0, .ref 141, .int 90 0, .int 0 0, .ref 148, .int 94 0, .int 0 0, .ref 155, .int 115 0, .int 0 0, .ref 162, .int 140 0, .int 0 0, .ref 169, .int 155 0, .int 0 0, .ref 176, .int 162 0, .int 0 0, .ref 183, .int 172 0, .int 0 0, .ref 188, .int 174 0, .int 0 0, .ref 195, .int 185 0, .int 0 0, .ref 202, .int 192 0, .int 0 0, .ref 209, .int 216 0, .int 0 0, .ref 214], #[]⟩
noncomputable def o131_78 (P : Params) : Obj := ⟨.type "tuple", none, .seq #[] 0, #[]⟩
noncomputable def o132_78 (P : Params) : Obj := ⟨.none, none, .fields #[], #[]⟩
noncomputable def o133_78 (P : Params) : Obj := ⟨.type "tuple", none, .seq #[sv "x" 2475] 0, #[]⟩
noncomputable def o134_78 (P : Params) : Obj := ⟨.type "tuple", none, .seq #[] 0, #[]⟩
noncomputable def o135_78 (P : Params) : Obj := ⟨.none, none, fnD 64 0 .none .none, #[]⟩
noncomputable def o136_78 (P : Params) : Obj := ⟨.type "code", none, .fields #[sv "ISNONTERMINAL" 2472, sv "ISNONTERMINAL" 2473, sv "/claim/cut.py" 2474, .int 81 0, .int 1 0, .int 0 0, .int 0 0, .int 3 0, .ref 131, .bool true, .int 181 0, .ref 132, .none, .ref 133, .ref 134, .ref 135, .int 2476 0, .int 81 0, sv "/claim/cut.py" 2477], #[]⟩
noncomputable def o137_78 (P : Params) : Obj := ⟨.type "function", none, fnD 64 3 (sv "cpy313.token" 2275) (.ref 136), #[]⟩
noncomputable def o138_78 (P : Params) : Obj := ⟨.type "tuple", none, .seq #[] 0, #[]⟩
noncomputable def o139_78 (P : Params) : Obj := ⟨.none, none, .fields #[], #[]⟩
noncomputable def o140_78 (P : Params) : Obj := ⟨.none, none, fnD 66 0 .none .none, #[]⟩
noncomputable def o141_78 (P : Params) : Obj := ⟨.type "code", none, .fields #[sv "_law_tree" 2481, sv "_law_tree" 2482, sv "/claim/cut.py" 2483, .int 84 0, .int 1 0, .int 0 0, .int 0 0, .int 3 0, .ref 138, .bool true, .int 181 0, .ref 139, .none, .none, .none, .ref 140, .int 2484 0, .int 84 0, sv "/claim/cut.py" 2485], #[]⟩
noncomputable def o142_78 (P : Params) : Obj := ⟨.type "function", none, fnD 66 3 (sv "law_wf0081_01" 2479) (.ref 141), #[]⟩
noncomputable def o143_78 (P : Params) : Obj := ⟨.type "tuple", none, .seq #[] 0, #[]⟩
noncomputable def o144_78 (P : Params) : Obj := ⟨.none, none, .fields #[], #[]⟩
noncomputable def o145_78 (P : Params) : Obj := ⟨.type "tuple", none, .seq #[sv "tree" 2490] 0, #[]⟩
noncomputable def o146_78 (P : Params) : Obj := ⟨.type "tuple", none, .seq #[] 0, #[]⟩
noncomputable def o147_78 (P : Params) : Obj := ⟨.none, none, fnD 67 0 .none .none, #[]⟩
noncomputable def o148_78 (P : Params) : Obj := ⟨.type "code", none, .fields #[sv "_law_plain" 2487, sv "_law_plain" 2488, sv "/claim/cut.py" 2489, .int 90 0, .int 1 0, .int 0 0, .int 0 0, .int 3 0, .ref 143, .bool true, .int 181 0, .ref 144, .none, .ref 145, .ref 146, .ref 147, .int 2491 0, .int 90 0, sv "/claim/cut.py" 2492], #[]⟩
noncomputable def o149_78 (P : Params) : Obj := ⟨.type "function", none, fnD 67 3 (sv "law_wf0081_01" 2479) (.ref 148), #[]⟩
noncomputable def o150_78 (P : Params) : Obj := ⟨.type "tuple", none, .seq #[] 0, #[]⟩
noncomputable def o151_78 (P : Params) : Obj := ⟨.none, none, .fields #[], #[]⟩
noncomputable def o152_78 (P : Params) : Obj := ⟨.type "tuple", none, .seq #[sv "plain" 2497, sv "numbers" 2498, sv "unseen" 2499, sv "starts" 2500, sv "text" 2501, sv "place" 2502, sv "seed" 2503, sv "letter" 2504] 0, #[]⟩
noncomputable def o153_78 (P : Params) : Obj := ⟨.type "tuple", none, .seq #[] 0, #[]⟩
noncomputable def o154_78 (P : Params) : Obj := ⟨.none, none, fnD 68 0 .none .none, #[]⟩
noncomputable def o155_78 (P : Params) : Obj := ⟨.type "code", none, .fields #[sv "_law_written" 2494, sv "_law_written" 2495, sv "/claim/cut.py" 2496, .int 94 0, .int 2 0, .int 0 0, .int 0 0, .int 3 0, .ref 150, .bool true, .int 181 0, .ref 151, .none, .ref 152, .ref 153, .ref 154, .int 2505 0, .int 94 0, sv "/claim/cut.py" 2506], #[]⟩
noncomputable def o156_78 (P : Params) : Obj := ⟨.type "function", none, fnD 68 3 (sv "law_wf0081_01" 2479) (.ref 155), #[]⟩
noncomputable def o157_78 (P : Params) : Obj := ⟨.type "tuple", none, .seq #[] 0, #[]⟩
noncomputable def o158_78 (P : Params) : Obj := ⟨.none, none, .fields #[], #[]⟩
noncomputable def o159_78 (P : Params) : Obj := ⟨.type "tuple", none, .seq #[sv "tree" 2511, sv "behind" 2512, sv "takes" 2513, sv "head" 2514, sv "rest" 2515, sv "steps" 2516, sv "tail" 2517, sv "text" 2518, sv "part" 2519, sv "made" 2520, sv "more" 2521] 0, #[]⟩
noncomputable def o160_78 (P : Params) : Obj := ⟨.type "tuple", none, .seq #[] 0, #[]⟩
noncomputable def o161_78 (P : Params) : Obj := ⟨.none, none, fnD 69 0 .none .none, #[]⟩
noncomputable def o162_78 (P : Params) : Obj := ⟨.type "code", none, .fields #[sv "_law_outer" 2508, sv "_law_outer" 2509, sv "/claim/cut.py" 2510, .int 115 0, .int 2 0, .int 0 0, .int 0 0, .int 3 0, .ref 157, .bool true, .int 181 0, .ref 158, .none, .ref 159, .ref 160, .ref 161, .int 2522 0, .int 115 0, sv "/claim/cut.py" 2523], #[]⟩
noncomputable def o163_78 (P : Params) : Obj := ⟨.type "function", none, fnD 69 3 (sv "law_wf0081_01" 2479) (.ref 162), #[]⟩
noncomputable def o164_78 (P : Params) : Obj := ⟨.type "tuple", none, .seq #[] 0, #[]⟩
noncomputable def o165_78 (P : Params) : Obj := ⟨.none, none, .fields #[], #[]⟩
noncomputable def o166_78 (P : Params) : Obj := ⟨.type "tuple", none, .seq #[sv "one" 2528, sv "two" 2529, sv "kind" 2530, sv "left" 2531, sv "made" 2532, sv "more" 2533, sv "whole" 2534, sv "rest" 2535] 0, #[]⟩
noncomputable def o167_78 (P : Params) : Obj := ⟨.type "tuple", none, .seq #[] 0, #[]⟩
noncomputable def o168_78 (P : Params) : Obj := ⟨.none, none, fnD 70 0 .none .none, #[]⟩
noncomputable def o169_78 (P : Params) : Obj := ⟨.type "code", none, .fields #[sv "_law_put" 2525, sv "_law_put" 2526, sv "/claim/cut.py" 2527, .int 140 0, .int 2 0, .int 0 0, .int 0 0, .int 3 0, .ref 164, .bool true, .int 181 0, .ref 165, .none, .ref 166, .ref 167, .ref 168, .int 2536 0, .int 140 0, sv "/claim/cut.py" 2537], #[]⟩
noncomputable def o170_78 (P : Params) : Obj := ⟨.type "function", none, fnD 70 3 (sv "law_wf0081_01" 2479) (.ref 169), #[]⟩
noncomputable def o171_78 (P : Params) : Obj := ⟨.type "tuple", none, .seq #[] 0, #[]⟩
noncomputable def o172_78 (P : Params) : Obj := ⟨.none, none, .fields #[], #[]⟩
noncomputable def o173_78 (P : Params) : Obj := ⟨.type "tuple", none, .seq #[sv "tree" 2542, sv "one" 2543, sv "steps" 2544, sv "two" 2545, sv "more" 2546, sv "made" 2547, sv "rest" 2548] 0, #[]⟩
noncomputable def o174_78 (P : Params) : Obj := ⟨.type "tuple", none, .seq #[] 0, #[]⟩
noncomputable def o175_78 (P : Params) : Obj := ⟨.none, none, fnD 71 0 .none .none, #[]⟩
noncomputable def o176_78 (P : Params) : Obj := ⟨.type "code", none, .fields #[sv "_law_inner" 2539, sv "_law_inner" 2540, sv "/claim/cut.py" 2541, .int 155 0, .int 1 0, .int 0 0, .int 0 0, .int 3 0, .ref 171, .bool true, .int 181 0, .ref 172, .none, .ref 173, .ref 174, .ref 175, .int 2549 0, .int 155 0, sv "/claim/cut.py" 2550], #[]⟩
noncomputable def o177_78 (P : Params) : Obj := ⟨.type "function", none, fnD 71 3 (sv "law_wf0081_01" 2479) (.ref 176), #[]⟩
noncomputable def o178_78 (P : Params) : Obj := ⟨.type "tuple", none, .seq #[] 0, #[]⟩
noncomputable def o179_78 (P : Params) : Obj := ⟨.none, none, .fields #[], #[]⟩
noncomputable def o180_78 (P : Params) : Obj := ⟨.type "tuple", none, .seq #[sv "text" 2555, sv "row" 2556, sv "sign" 2557, sv "letter" 2558] 0, #[]⟩
noncomputable def o181_78 (P : Params) : Obj := ⟨.type "tuple", none, .seq #[] 0, #[]⟩
noncomputable def o182_78 (P : Params) : Obj := ⟨.none, none, fnD 72 0 .none .none, #[]⟩
noncomputable def o183_78 (P : Params) : Obj := ⟨.type "code", none, .fields #[sv "_law_read" 2552, sv "_law_read" 2553, sv "/claim/cut.py" 2554, .int 162 0, .int 1 0, .int 0 0, .int 0 0, .int 3 0, .ref 178, .bool true, .int 181 0, .ref 179, .none, .ref 180, .ref 181, .ref 182, .int 2559 0, .int 162 0, sv "/claim/cut.py" 2560], #[]⟩
noncomputable def o184_78 (P : Params) : Obj := ⟨.type "function", none, fnD 72 3 (sv "law_wf0081_01" 2479) (.ref 183), #[]⟩
noncomputable def o185_78 (P : Params) : Obj := ⟨.type "tuple", none, .seq #[] 0, #[]⟩
noncomputable def o186_78 (P : Params) : Obj := ⟨.none, none, .fields #[], #[]⟩
noncomputable def o187_78 (P : Params) : Obj := ⟨.none, none, fnD 73 0 .none .none, #[]⟩
noncomputable def o188_78 (P : Params) : Obj := ⟨.type "code", none, .fields #[sv "_law_shown" 2562, sv "_law_shown" 2563, sv "/claim/cut.py" 2564, .int 172 0, .int 1 0, .int 0 0, .int 0 0, .int 3 0, .ref 185, .bool true, .int 181 0, .ref 186, .none, .none, .none, .ref 187, .int 2565 0, .int 172 0, sv "/claim/cut.py" 2566], #[]⟩
noncomputable def o189_78 (P : Params) : Obj := ⟨.type "function", none, fnD 73 3 (sv "law_wf0081_01" 2479) (.ref 188), #[]⟩
noncomputable def o190_78 (P : Params) : Obj := ⟨.type "tuple", none, .seq #[] 0, #[]⟩
noncomputable def o191_78 (P : Params) : Obj := ⟨.none, none, .fields #[], #[]⟩
noncomputable def o192_78 (P : Params) : Obj := ⟨.type "tuple", none, .seq #[sv "row" 2571, sv "heads" 2572, sv "run" 2573, sv "place" 2574, sv "symbol" 2575] 0, #[]⟩
noncomputable def o193_78 (P : Params) : Obj := ⟨.type "tuple", none, .seq #[] 0, #[]⟩
noncomputable def o194_78 (P : Params) : Obj := ⟨.none, none, fnD 74 0 .none .none, #[]⟩
noncomputable def o195_78 (P : Params) : Obj := ⟨.type "code", none, .fields #[sv "_law_heads" 2568, sv "_law_heads" 2569, sv "/claim/cut.py" 2570, .int 174 0, .int 1 0, .int 0 0, .int 0 0, .int 3 0, .ref 190, .bool true, .int 181 0, .ref 191, .none, .ref 192, .ref 193, .ref 194, .int 2576 0, .int 174 0, sv "/claim/cut.py" 2577], #[]⟩
noncomputable def o196_78 (P : Params) : Obj := ⟨.type "function", none, fnD 74 3 (sv "law_wf0081_01" 2479) (.ref 195), #[]⟩
noncomputable def o197_78 (P : Params) : Obj := ⟨.type "tuple", none, .seq #[] 0, #[]⟩
noncomputable def o198_78 (P : Params) : Obj := ⟨.none, none, .fields #[], #[]⟩
noncomputable def o199_78 (P : Params) : Obj := ⟨.type "tuple", none, .seq #[sv "row" 2582, sv "start" 2583, sv "lacking" 2584, sv "place" 2585] 0, #[]⟩
noncomputable def o200_78 (P : Params) : Obj := ⟨.type "tuple", none, .seq #[] 0, #[]⟩
noncomputable def o201_78 (P : Params) : Obj := ⟨.none, none, fnD 75 0 .none .none, #[]⟩
noncomputable def o202_78 (P : Params) : Obj := ⟨.type "code", none, .fields #[sv "_law_behind" 2579, sv "_law_behind" 2580, sv "/claim/cut.py" 2581, .int 185 0, .int 2 0, .int 0 0, .int 0 0, .int 3 0, .ref 197, .bool true, .int 181 0, .ref 198, .none, .ref 199, .ref 200, .ref 201, .int 2586 0, .int 185 0, sv "/claim/cut.py" 2587], #[]⟩
noncomputable def o203_78 (P : Params) : Obj := ⟨.type "function", none, fnD 75 3 (sv "law_wf0081_01" 2479) (.ref 202), #[]⟩
noncomputable def o204_78 (P : Params) : Obj := ⟨.type "tuple", none, .seq #[] 0, #[]⟩
noncomputable def o205_78 (P : Params) : Obj := ⟨.none, none, .fields #[], #[]⟩
noncomputable def o206_78 (P : Params) : Obj := ⟨.type "tuple", none, .seq #[sv "drawn" 2592, sv "turns" 2593, sv "at" 2594, sv "row" 2595, sv "steps" 2596, sv "heads" 2597, sv "head" 2598, sv "takes" 2599, sv "parts" 2600, sv "place" 2601, sv "turn" 2602, sv "end" 2603, sv "made" 2604] 0, #[]⟩
noncomputable def o207_78 (P : Params) : Obj := ⟨.type "tuple", none, .seq #[] 0, #[]⟩
noncomputable def o208_78 (P : Params) : Obj := ⟨.none, none, fnD 76 0 .none .none, #[]⟩
noncomputable def o209_78 (P : Params) : Obj := ⟨.type "code", none, .fields #[sv "_law_stepped" 2589, sv "_law_stepped" 2590, sv "/claim/cut.py" 2591, .int 192 0, .int 2 0, .int 0 0, .int 0 0, .int 3 0, .ref 204, .bool true, .int 181 0, .ref 205, .none, .ref 206, .ref 207, .ref 208, .int 2605 0, .int 192 0, sv "/claim/cut.py" 2606], #[]⟩
noncomputable def o210_78 (P : Params) : Obj := ⟨.type "function", none, fnD 76 3 (sv "law_wf0081_01" 2479) (.ref 209), #[]⟩
noncomputable def o211_78 (P : Params) : Obj := ⟨.type "tuple", none, .seq #[] 0, #[]⟩
noncomputable def o212_78 (P : Params) : Obj := ⟨.none, none, .fields #[], #[]⟩
noncomputable def o213_78 (P : Params) : Obj := ⟨.none, none, fnD 77 0 .none .none, #[]⟩
noncomputable def o214_78 (P : Params) : Obj := ⟨.type "code", none, .fields #[sv "law" 2608, sv "law" 2609, sv "/claim/cut.py" 2610, .int 216 0, .int 1 0, .int 0 0, .int 0 0, .int 3 0, .ref 211, .bool true, .int 181 0, .ref 212, .none, .none, .none, .ref 213, .int 2611 0, .int 216 0, sv "/claim/cut.py" 2612], #[]⟩
noncomputable def o215_78 (P : Params) : Obj := ⟨.type "function", none, fnD 77 3 (sv "law_wf0081_01" 2479) (.ref 214), #[]⟩
noncomputable def T78 (P : Params) : BT := (.node (boot_o_0 P) (.node (boot_o_1 P) (.node (o3_78 P) (.node (boot_o_7 P) (.node (o15_9 P) (.node (o31_9 P) (.node (o63_9 P) (.node (o127_63 P) .nil .nil) (.node (o191_78 P) .nil .nil)) (.node (o95_12 P) (.node (o159_78 P) .nil .nil) .nil)) (.node (o47_9 P) (.node (o79_11 P) (.node (o143_78 P) .nil .nil) (.node (o207_78 P) .nil .nil)) (.node (o111_12 P) (.node (o175_78 P) .nil .nil) .nil))) (.node (o23_9 P) (.node (o39_9 P) (.node (o71_10 P) (.node (o135_78 P) .nil .nil) (.node (o199_78 P) .nil .nil)) (.node (o103_12 P) (.node (o167_78 P) .nil .nil) .nil)) (.node (o55_9 P) (.node (o87_12 P) (.node (o151_78 P) .nil .nil) (.node (o215_78 P) .nil .nil)) (.node (o119_12 P) (.node (o183_78 P) .nil .nil) .nil)))) (.node (o11_p P) (.node (o19_9 P) (.node (o35_9 P) (.node (o67_10 P) (.node (o131_78 P) .nil .nil) (.node (o195_78 P) .nil .nil)) (.node (o99_12 P) (.node (o163_78 P) .nil .nil) .nil)) (.node (o51_9 P) (.node (o83_12 P) (.node (o147_78 P) .nil .nil) (.node (o211_78 P) .nil .nil)) (.node (o115_12 P) (.node (o179_78 P) .nil .nil) .nil))) (.node (o27_9 P) (.node (o43_9 P) (.node (o75_11 P) (.node (o139_78 P) .nil .nil) (.node (o203_78 P) .nil .nil)) (.node (o107_12 P) (.node (o171_78 P) .nil .nil) .nil)) (.node (o59_9 P) (.node (o91_12 P) (.node (o155_78 P) .nil .nil) .nil) (.node (o123_63 P) (.node (o187_78 P) .nil .nil) .nil))))) (.node (boot_o_5 P) (.node (boot_o_9 P) (.node (o17_9 P) (.node (o33_9 P) (.node (o65_10 P) (.node (o129_64 P) .nil .nil) (.node (o193_78 P) .nil .nil)) (.node (o97_12 P) (.node (o161_78 P) .nil .nil) .nil)) (.node (o49_9 P) (.node (o81_11 P) (.node (o145_78 P) .nil .nil) (.node (o209_78 P) .nil .nil)) (.node (o113_12 P) (.node (o177_78 P) .nil .nil) .nil))) (.node (o25_9 P) (.node (o41_9 P) (.node (o73_10 P) (.node (o137_78 P) .nil .nil) (.node (o201_78 P) .nil .nil)) (.node (o105_12 P) (.node (o169_78 P) .nil .nil) .nil)) (.node (o57_9 P) (.node (o89_12 P) (.node (o153_78 P) .nil .nil) .nil) (.node (o121_63 P) (.node (o185_78 P) .nil .nil) .nil)))) (.node (o13_p P) (.node (o21_9 P) (.node (o37_9 P) (.node (o69_10 P) (.node (o133_78 P) .nil .nil) (.node (o197_78 P) .nil .nil)) (.node (o101_12 P) (.node (o165_78 P) .nil .nil) .nil)) (.node (o53_9 P) (.node (o85_12 P) (.node (o149_78 P) .nil .nil) (.node (o213_78 P) .nil .nil)) (.node (o117_12 P) (.node (o181_78 P) .nil .nil) .nil))) (.node (o29_9 P) (.node (o45_9 P) (.node (o77_11 P) (.node (o141_78 P) .nil .nil) (.node (o205_78 P) .nil .nil)) (.node (o109_12 P) (.node (o173_78 P) .nil .nil) .nil)) (.node (o61_9 P) (.node (o93_12 P) (.node (o157_78 P) .nil .nil) .nil) (.node (o125_63 P) (.node (o189_78 P) .nil .nil) .nil)))))) (.node (boot_o_2 P) (.node (boot_o_4 P) (.node (boot_o_8 P) (.node (o16_9 P) (.node (o32_9 P) (.node (o64_10 P) (.node (o128_64 P) .nil .nil) (.node (o192_78 P) .nil .nil)) (.node (o96_12 P) (.node (o160_78 P) .nil .nil) .nil)) (.node (o48_9 P) (.node (o80_11 P) (.node (o144_78 P) .nil .nil) (.node (o208_78 P) .nil .nil)) (.node (o112_12 P) (.node (o176_78 P) .nil .nil) .nil))) (.node (o24_9 P) (.node (o40_9 P) (.node (o72_10 P) (.node (o136_78 P) .nil .nil) (.node (o200_78 P) .nil .nil)) (.node (o104_12 P) (.node (o168_78 P) .nil .nil) .nil)) (.node (o56_9 P) (.node (o88_12 P) (.node (o152_78 P) .nil .nil) .nil) (.node (o120_12 P) (.node (o184_78 P) .nil .nil) .nil)))) (.node (o12_78 P) (.node (o20_9 P) (.node (o36_9 P) (.node (o68_10 P) (.node (o132_78 P) .nil .nil) (.node (o196_78 P) .nil .nil)) (.node (o100_12 P) (.node (o164_78 P) .nil .nil) .nil)) (.node (o52_9 P) (.node (o84_12 P) (.node (o148_78 P) .nil .nil) (.node (o212_78 P) .nil .nil)) (.node (o116_12 P) (.node (o180_78 P) .nil .nil) .nil))) (.node (o28_9 P) (.node (o44_9 P) (.node (o76_11 P) (.node (o140_78 P) .nil .nil) (.node (o204_78 P) .nil .nil)) (.node (o108_12 P) (.node (o172_78 P) .nil .nil) .nil)) (.node (o60_9 P) (.node (o92_12 P) (.node (o156_78 P) .nil .nil) .nil) (.node (o124_63 P) (.node (o188_78 P) .nil .nil) .nil))))) (.node (boot_o_6 P) (.node (boot_o_10 P) (.node (o18_9 P) (.node (o34_9 P) (.node (o66_10 P) (.node (o130_64 P) .nil .nil) (.node (o194_78 P) .nil .nil)) (.node (o98_12 P) (.node (o162_78 P) .nil .nil) .nil)) (.node (o50_9 P) (.node (o82_12 P) (.node (o146_78 P) .nil .nil) (.node (o210_78 P) .nil .nil)) (.node (o114_12 P) (.node (o178_78 P) .nil .nil) .nil))) (.node (o26_9 P) (.node (o42_9 P) (.node (o74_10 P) (.node (o138_78 P) .nil .nil) (.node (o202_78 P) .nil .nil)) (.node (o106_12 P) (.node (o170_78 P) .nil .nil) .nil)) (.node (o58_9 P) (.node (o90_12 P) (.node (o154_78 P) .nil .nil) .nil) (.node (o122_63 P) (.node (o186_78 P) .nil .nil) .nil)))) (.node (o14_p P) (.node (o22_9 P) (.node (o38_9 P) (.node (o70_10 P) (.node (o134_78 P) .nil .nil) (.node (o198_78 P) .nil .nil)) (.node (o102_12 P) (.node (o166_78 P) .nil .nil) .nil)) (.node (o54_9 P) (.node (o86_12 P) (.node (o150_78 P) .nil .nil) (.node (o214_78 P) .nil .nil)) (.node (o118_12 P) (.node (o182_78 P) .nil .nil) .nil))) (.node (o30_9 P) (.node (o46_9 P) (.node (o78_11 P) (.node (o142_78 P) .nil .nil) (.node (o206_78 P) .nil .nil)) (.node (o110_12 P) (.node (o174_78 P) .nil .nil) .nil)) (.node (o62_9 P) (.node (o94_12 P) (.node (o158_78 P) .nil .nil) .nil) (.node (o126_63 P) (.node (o190_78 P) .nil .nil) .nil)))))))
noncomputable abbrev n78 : Nat := 216
noncomputable abbrev tk78 : Nat := 2614
noncomputable abbrev pos78 : Pos := ⟨216, 0, 228, 63⟩
-- steps up to 78: 15668
-- life { } ; fin 1 block 0 pre 12; pre n 15; block n 15; drawn { }
noncomputable def lsF (P : Params) : List Obj := [boot_o_0 P, boot_o_1 P, boot_o_2 P, o3_78 P, boot_o_4 P, boot_o_5 P, boot_o_6 P, boot_o_7 P, boot_o_8 P, boot_o_9 P, boot_o_10 P, o11_p P, o12_78 P, o13_p P, o14_p P, o15_9 P, o16_9 P, o17_9 P, o18_9 P, o19_9 P, o20_9 P, o21_9 P, o22_9 P, o23_9 P, o24_9 P, o25_9 P, o26_9 P, o27_9 P, o28_9 P, o29_9 P, o30_9 P, o31_9 P, o32_9 P, o33_9 P, o34_9 P, o35_9 P, o36_9 P, o37_9 P, o38_9 P, o39_9 P, o40_9 P, o41_9 P, o42_9 P, o43_9 P, o44_9 P, o45_9 P, o46_9 P, o47_9 P, o48_9 P, o49_9 P, o50_9 P, o51_9 P, o52_9 P, o53_9 P, o54_9 P, o55_9 P, o56_9 P, o57_9 P, o58_9 P, o59_9 P, o60_9 P, o61_9 P, o62_9 P, o63_9 P, o64_10 P, o65_10 P, o66_10 P, o67_10 P, o68_10 P, o69_10 P, o70_10 P, o71_10 P, o72_10 P, o73_10 P, o74_10 P, o75_11 P, o76_11 P, o77_11 P, o78_11 P, o79_11 P, o80_11 P, o81_11 P, o82_12 P, o83_12 P, o84_12 P, o85_12 P, o86_12 P, o87_12 P, o88_12 P, o89_12 P, o90_12 P, o91_12 P, o92_12 P, o93_12 P, o94_12 P, o95_12 P, o96_12 P, o97_12 P, o98_12 P, o99_12 P, o100_12 P, o101_12 P, o102_12 P, o103_12 P, o104_12 P, o105_12 P, o106_12 P, o107_12 P, o108_12 P, o109_12 P, o110_12 P, o111_12 P, o112_12 P, o113_12 P, o114_12 P, o115_12 P, o116_12 P, o117_12 P, o118_12 P, o119_12 P, o120_12 P, o121_63 P, o122_63 P, o123_63 P, o124_63 P, o125_63 P, o126_63 P, o127_63 P, o128_64 P, o129_64 P, o130_64 P, o131_78 P, o132_78 P, o133_78 P, o134_78 P, o135_78 P, o136_78 P, o137_78 P, o138_78 P, o139_78 P, o140_78 P, o141_78 P, o142_78 P, o143_78 P, o144_78 P, o145_78 P, o146_78 P, o147_78 P, o148_78 P, o149_78 P, o150_78 P, o151_78 P, o152_78 P, o153_78 P, o154_78 P, o155_78 P, o156_78 P, o157_78 P, o158_78 P, o159_78 P, o160_78 P, o161_78 P, o162_78 P, o163_78 P, o164_78 P, o165_78 P, o166_78 P, o167_78 P, o168_78 P, o169_78 P, o170_78 P, o171_78 P, o172_78 P, o173_78 P, o174_78 P, o175_78 P, o176_78 P, o177_78 P, o178_78 P, o179_78 P, o180_78 P, o181_78 P, o182_78 P, o183_78 P, o184_78 P, o185_78 P, o186_78 P, o187_78 P, o188_78 P, o189_78 P, o190_78 P, o191_78 P, o192_78 P, o193_78 P, o194_78 P, o195_78 P, o196_78 P, o197_78 P, o198_78 P, o199_78 P, o200_78 P, o201_78 P, o202_78 P, o203_78 P, o204_78 P, o205_78 P, o206_78 P, o207_78 P, o208_78 P, o209_78 P, o210_78 P, o211_78 P, o212_78 P, o213_78 P, o214_78 P, o215_78 P]

noncomputable def life0 : Life := {}
noncomputable def S (k : Params → BT) (n tk : Nat) (w : World) (os : OsState) : SharedT := ⟨k w.params, n, life0, #[], {}, tk, os⟩
noncomputable abbrev seg (w : World) (N : Nat) (s : SharedT) (th : Thread) : Option (Flow × SharedT × Code × Pos) := segRunT treeTable pw w 11 an 1 N s th
noncomputable def sts (i n : Nat) : List Stmt := (pw.main.body.drop i).take n
end Mine
/-! part HdF -/
namespace Mine
open PySem PySem.W PyProof.Rows PySem.Calls
theorem pc0 (w : World) (os : OsState) : seg w 231 (S T0 n0 tk0 w os) (piecesOf (sts 0 9) env0 cB pos0 B0) = some (.next, S T9 n9 tk9 w os, cB, pos9) := by kernel_rfl
theorem pc10 (w : World) (os : OsState) : seg w 30 (S T10 n10 tk10 w os) (piecesOf (sts 10 1) env0 cB pos10 B0) = some (.next, S T11 n11 tk11 w os, cB, pos11) := by kernel_rfl
theorem pc12 (w : World) (os : OsState) : seg w 481 (S T12 n12 tk12 w os) (piecesOf (sts 12 51) env0 cB pos12 B0) = some (.next, S T63 n63 tk63 w os, cB, pos63) := by kernel_rfl
theorem pc64 (w : World) (os : OsState) : seg w 430 (S T64 n64 tk64 w os) (piecesOf (sts 64 14) env0 cB pos64 B0) = some (.next, S T78 n78 tk78 w os, cB, pos78) := by kernel_rfl
end Mine
/-! part HdG -/
namespace Mine
open PySem PySem.W PyProof.Rows PySem.Calls
noncomputable def P63 (w : World) : Prop := ∀ os, seg w 979 (S T63 n63 tk63 w os) (piecesOf (sts 63 1) env0 cB pos63 B0) = some (.next, S T64 n64 tk64 w os, cB, pos64)
theorem pc63f (w : World) : P63 (w.withFollow "special-get-raises" false) := fun os => by kernel_rfl
theorem pc63t (w : World) : P63 (w.withFollow "special-get-raises" true) := fun os => by kernel_rfl
theorem pc63 (w : World) : P63 w := byRow2 "special-get-raises" pc63f pc63t w
end Mine
/-! part HdH -/
namespace Mine
open PySem PySem.W PyProof.Rows PySem.Calls
noncomputable abbrev segQ (w : World) (N : Nat) (s : SharedT) (th : Thread) : Option (Flow × SharedT × Code × Pos) := Fast.tw10110043849684766642 Fast.tw14364793385576792824 pw w 11 an 1 N s th
theorem seg_q (w : World) (N : Nat) (s : SharedT) (th : Thread) : seg w N s th = segQ w N s th := by
  unfold seg segQ
  rw [Fast.te10110043849684766642, Fast.te14364793385576792824]
noncomputable def P9 (w : World) : Prop := ∀ os, segQ w 999 (S T9 n9 tk9 w os) (piecesOf (sts 9 1) env0 cB pos9 B0) = some (.next, S T10 n10 tk10 w os, cB, pos10)
theorem pc9ff (w : World) : P9 ((w.withFollow "special-get-raises" false).withFollow "set-order" false) := fun os => by kernel_rfl
theorem pc9ft (w : World) : P9 ((w.withFollow "special-get-raises" true).withFollow "set-order" false) := fun os => by kernel_rfl
theorem pc9tf (w : World) : P9 ((w.withFollow "special-get-raises" false).withFollow "set-order" true) := fun os => by kernel_rfl
theorem pc9tt (w : World) : P9 ((w.withFollow "special-get-raises" true).withFollow "set-order" true) := fun os => by kernel_rfl
theorem pc9 (w : World) (os : OsState) : seg w 999 (S T9 n9 tk9 w os) (piecesOf (sts 9 1) env0 cB pos9 B0) = some (.next, S T10 n10 tk10 w os, cB, pos10) := by
  rw [seg_q]
  exact byRow2 "set-order" (P := P9) (fun w => byRow2 "special-get-raises" (P := fun w => P9 (w.withFollow "set-order" false)) pc9ff pc9ft w)
    (fun w => byRow2 "special-get-raises" (P := fun w => P9 (w.withFollow "set-order" true)) pc9tf pc9tt w) w os
end Mine
/-! part HdI -/
namespace Mine
open PySem PySem.W PyProof.Rows PySem.Calls
noncomputable def T11d (P : Params) : BT := (.node (boot_o_0 P) (.node (boot_o_1 P) (.node (o3_11 P) (.node (boot_o_7 P) (.node (o15_9 P) (.node (o31_9 P) (.node (o63_9 P) .nil .nil) (.node (o95_12 P) .nil .nil)) (.node (o47_9 P) (.node (o79_11 P) .nil .nil) (.node (o111_12 P) .nil .nil))) (.node (o23_9 P) (.node (o39_9 P) (.node (o71_10 P) .nil .nil) (.node (o103_12 P) .nil .nil)) (.node (o55_9 P) (.node (o87_12 P) .nil .nil) (.node (o119_12 P) .nil .nil)))) (.node (o11_p P) (.node (o19_9 P) (.node (o35_9 P) (.node (o67_10 P) .nil .nil) (.node (o99_12 P) .nil .nil)) (.node (o51_9 P) (.node (o83_12 P) .nil .nil) (.node (o115_12 P) .nil .nil))) (.node (o27_9 P) (.node (o43_9 P) (.node (o75_11 P) .nil .nil) (.node (o107_12 P) .nil .nil)) (.node (o59_9 P) (.node (o91_12 P) .nil .nil) .nil)))) (.node (boot_o_5 P) (.node (boot_o_9 P) (.node (o17_9 P) (.node (o33_9 P) (.node (o65_10 P) .nil .nil) (.node (o97_12 P) .nil .nil)) (.node (o49_9 P) (.node (o81_11 P) .nil .nil) (.node (o113_12 P) .nil .nil))) (.node (o25_9 P) (.node (o41_9 P) (.node (o73_10 P) .nil .nil) (.node (o105_12 P) .nil .nil)) (.node (o57_9 P) (.node (o89_12 P) .nil .nil) .nil))) (.node (o13_p P) (.node (o21_9 P) (.node (o37_9 P) (.node (o69_10 P) .nil .nil) (.node (o101_12 P) .nil .nil)) (.node (o53_9 P) (.node (o85_12 P) .nil .nil) (.node (o117_12 P) .nil .nil))) (.node (o29_9 P) (.node (o45_9 P) (.node (o77_11 P) .nil .nil) (.node (o109_12 P) .nil .nil)) (.node (o61_9 P) (.node (o93_12 P) .nil .nil) .nil))))) (.node (boot_o_2 P) (.node (boot_o_4 P) (.node (boot_o_8 P) (.node (o16_9 P) (.node (o32_9 P) (.node (o64_10 P) .nil .nil) (.node (o96_12 P) .nil .nil)) (.node (o48_9 P) (.node (o80_11 P) .nil .nil) (.node (o112_12 P) .nil .nil))) (.node (o24_9 P) (.node (o40_9 P) (.node (o72_10 P) .nil .nil) (.node (o104_12 P) .nil .nil)) (.node (o56_9 P) (.node (o88_12 P) .nil .nil) (.node (o120_12 P) .nil .nil)))) (.node (o12_11 P) (.node (o20_9 P) (.node (o36_9 P) (.node (o68_10 P) .nil .nil) (.node (o100_12 P) .nil .nil)) (.node (o52_9 P) (.node (o84_12 P) .nil .nil) (.node (o116_12 P) .nil .nil))) (.node (o28_9 P) (.node (o44_9 P) (.node (o76_11 P) .nil .nil) (.node (o108_12 P) .nil .nil)) (.node (o60_9 P) (.node (o92_12 P) .nil .nil) .nil)))) (.node (boot_o_6 P) (.node (boot_o_10 P) (.node (o18_9 P) (.node (o34_9 P) (.node (o66_10 P) .nil .nil) (.node (o98_12 P) .nil .nil)) (.node (o50_9 P) (.node (o82_12 P) .nil .nil) (.node (o114_12 P) .nil .nil))) (.node (o26_9 P) (.node (o42_9 P) (.node (o74_10 P) .nil .nil) (.node (o106_12 P) .nil .nil)) (.node (o58_9 P) (.node (o90_12 P) .nil .nil) .nil))) (.node (o14_p P) (.node (o22_9 P) (.node (o38_9 P) (.node (o70_10 P) .nil .nil) (.node (o102_12 P) .nil .nil)) (.node (o54_9 P) (.node (o86_12 P) .nil .nil) (.node (o118_12 P) .nil .nil))) (.node (o30_9 P) (.node (o46_9 P) (.node (o78_11 P) .nil .nil) (.node (o110_12 P) .nil .nil)) (.node (o62_9 P) (.node (o94_12 P) .nil .nil) .nil))))))
noncomputable def risesB : Int → List Int → Bool
  | _, [] => true
  | a, k :: r => decide (a < k) && (decide (k < 2 ^ 60) && risesB k r)
theorem rises_of : ∀ {l : List Int} {a : Int}, risesB a l = true → rises a l
  | [], _, _ => trivial
  | k :: l, a, h => by
    simp only [risesB, Bool.and_eq_true, decide_eq_true_eq] at h
    exact ⟨h.1, h.2.1, rises_of h.2.2⟩
theorem ks_rises : risesB 0 (ks.map (·.1)) = true := by decide +kernel
theorem ks_parts : c0 ++ (cs.flatten ++ last) = ks := by kernel_rfl
theorem c0_len : c0.length = 17 := by decide +kernel
theorem cs_len : (cs.all fun c => c.length == 17) = true := by decide +kernel
theorem cs_num : cs.length = 37 := by decide +kernel
theorem last_len : last.length = 4 := by decide +kernel
noncomputable def dk : List (Option Expr) := match stmtAt 11 with | .Assign _ (.Dict k _ _) _ => k | _ => []
noncomputable def dv : List Expr := match stmtAt 11 with | .Assign _ (.Dict _ v _) _ => v | _ => []
noncomputable def dp : Pos := match stmtAt 11 with | .Assign _ (.Dict _ _ p) _ => p | _ => p0
noncomputable def ap : Pos := match stmtAt 11 with | .Assign _ _ p => p | _ => p0
noncomputable def tg : Expr := match stmtAt 11 with | .Assign [t] _ _ => t | _ => .Name "x" p0
theorem items_eq : ((evalEachOpt dk env0).zip ((evalEach dv env0).map fun v => do let x ← v; standAt dp; pure x)) = ks.map (itS dp) := by kernel_rfl
theorem swaps_eq : swapsWithSole [tg] (.Dict dk dv dp) ap.line env0 = pure false := by kernel_rfl

noncomputable def m2 (v : Value) : Sem Flow := do assignStores env0 v (← swappedStores [tg] (.Dict dk dv dp) env0) ((assignEach [tg] env0).map (·.2))
theorem exec11 : exec (stmtAt 11) env0 = ((do standAt ap; eval (.Dict dk dv dp) env0) >>= fun v => m2 v) := by kernel_rfl
theorem eval11 : eval (.Dict dk dv dp) env0 = (do standAt dp; dictDisplay ((evalEachOpt dk env0).zip ((evalEach dv env0).map fun v => do let x ← v; standAt dp; pure x))) := by kernel_rfl
theorem dspL_len : dspL.length = 39 := by decide +kernel
theorem dspL_eq : dspL = (List.range 39).map dsp := by
  apply List.ext_getElem?
  intro i
  rw [List.getElem?_map]
  by_cases h : i < 39
  · rw [List.getElem?_range h]
    show _ = some ((dspL[i]?).getD default)
    rw [List.getElem?_eq_getElem (by rw [dspL_len]; exact h)]; rfl
  · rw [List.getElem?_eq_none (by rw [dspL_len]; omega), List.getElem?_eq_none (by simp; omega)]; rfl
theorem tk_end : dspE.2.2 + 3 * last.length = 2266 := by decide +kernel
theorem heap11 (P : Params) : hpOf (absHeap (T11 P) 82 life0) dspL = absHeap (T11d P) 121 life0 := by
  have e : (T11 P).list 82 ++ (List.range 39).map dsp = (T11d P).list 121 := by kernel_rfl
  unfold hpOf absHeap
  rw [dspL_eq]
  simp only
  rw [← e]
  simp
theorem pc11b (w : World) (os : OsState) : seg w 20 (S T11d 121 2266 w os) ⟨(m2 (.ref 82)).wrap doneF deadEnd id id, cB, dp, B0⟩ = some (.next, S T12 n12 tk12 w os, cB, pos12) := by kernel_rfl
end Mine
/-! part HdJ -/
namespace Mine
open PySem PySem.W PyProof.Rows PySem.Calls
noncomputable abbrev TR (w : World) (N : Nat) (s : Shared) (t : Thread) : Option Shared := topRun treeTable pw w 11 an N s t
theorem pcPre (w : World) (os : OsState) : topGo treeTable pw w 11 an 12 ⟨boot_heap w.params, Array.mk [], boot_drawn, boot_toks, os⟩ (topStub pw) = some ((S T0 n0 tk0 w os).abs, ⟨denote treeTable cB, cB, pos0, B0⟩) := by kernel_rfl
theorem pcBlock (w : World) (os : OsState) : seg w 1 (S T0 n0 tk0 w os) (blockOf (behindTheImports pw) env0 cB pos0 B0) = some (.next, S T0 n0 tk0 w os, cB, pos0) := by kernel_rfl
theorem pcFin (w : World) (os : OsState) : TR w 2 (S T78 n78 tk78 w os).abs ⟨doneF .next, cB, pos78, B0⟩ = some (S T78 n78 tk78 w os).abs := by kernel_rfl
theorem body_eq : behindTheImports pw = sts 0 9 ++ (sts 9 1 ++ (sts 10 1 ++ (stmtAt 11 :: (sts 12 51 ++ (sts 63 1 ++ (sts 64 14 ++ [])))))) := by kernel_rfl

theorem go11 (w : World) (os : OsState) : Go w 13000 (do standAt ap; eval (.Dict dk dv dp) env0) (S T11 n11 tk11 w os).abs pos11 (.ref 82) (S T11d 121 2266 w os).abs dp := by
  have hs : (absHeap (T11 w.params) 82 life0).objs.size = 82 := absHeap_size _ _ _
  have hd := goDisplay (w := w) (gs := #[]) (dr := {}) (os := os) (b := absHeap (T11 w.params) 82 life0) (by rw [hs]; rfl) dp c0 cs last 316 c0_len
    (fun c hc => by have := List.all_eq_true.mp cs_len c hc; simpa using this) (by rw [last_len]; decide) (by intro e; have := last_len; rw [e] at this; cases this) (by rw [ks_parts]; exact rises_of ks_rises) (by rw [cs_num]; decide)
  rw [ks_parts, hs] at hd
  have e1 : (endL cs (entsL c0 316) [] (316 + 51)).2.2 + 3 * last.length = 2266 := tk_end
  rw [e1] at hd
  have e2 : hpOf (absHeap (T11 w.params) 82 life0) (dO ((endL cs (entsL c0 316) [] (316 + 51)).1 ++ entsS last (endL cs (entsL c0 316) [] (316 + 51)).2.2) :: ((endL cs (entsL c0 316) [] (316 + 51)).2.1 ++ [dO (entsS last (endL cs (entsL c0 316) [] (316 + 51)).2.2)])) = absHeap (T11d w.params) 121 life0 := heap11 w.params
  rw [e2] at hd
  rw [eval11, items_eq]
  refine Go.le (Go.bind (Go.standAt (q := ap)) (Go.bind (Go.standAt (q := dp)) hd)) (by rw [cs_num]; decide)

theorem run11 (w : World) (os : OsState) {N : Nat} {rest : List Stmt} {r : Shared} (k : TR w N (S T12 n12 tk12 w os).abs (restOf rest env0 cB pos12 B0) = some r) :
    TR w (13000 + (20 + N)) (S T11 n11 tk11 w os).abs (restOf (stmtAt 11 :: rest) env0 cB pos11 B0) = some r := by
  unfold restOf
  rw [execs_cons_wrap, exec11, Sem.bind_eq_wrap', Sem.wrap_wrap]
  refine Go.top (go11 w os) ?_
  obtain ⟨a, ha, hN⟩ := seg_top (res := id) (K' := fun f => match f with | .next => (execs rest env0).wrap doneF (leaveH env0) id id | f => doneF f) (H' := leaveH env0) (B := B0) rfl 20 (S T11d 121 2266 w os).abs
    ⟨(m2 (.ref 82)).wrap doneF deadEnd id id, cB, dp, B0⟩ ⟨(m2 (.ref 82)).wrap (fun f => match f with | .next => (execs rest env0).wrap doneF (leaveH env0) id id | f => doneF f) (leaveH env0) id id, cB, dp, B0⟩ _ _ _ _ ⟨rfl, rfl, .inl ⟨rfl, rfl, _, rfl, rfl⟩⟩ (segRun_of (pc11b w os))
  obtain rfl : a = .next := ha
  exact hN N r k

noncomputable def steps : Nat := 12 + (1 + (231 + (999 + (30 + (13000 + (20 + (481 + (979 + (430 + 2)))))))))
theorem runAll (w : World) (os : OsState) : TR w steps ⟨boot_heap w.params, Array.mk [], boot_drawn, boot_toks, os⟩ (topStub pw) = some (S T78 n78 tk78 w os).abs := by
  refine go_top (pcPre w os) ?_
  refine piece_block (segRun_of (pcBlock w os)) ?_
  rw [body_eq]
  refine piece_app (segRun_of (pc0 w os)) ?_
  refine piece_app (segRun_of (pc9 w os)) ?_
  refine piece_app (segRun_of (pc10 w os)) ?_
  refine run11 w os ?_
  refine piece_app (segRun_of (pc12 w os)) ?_
  refine piece_app (segRun_of (pc63 w os)) ?_
  refine piece_app (segRun_of (pc64 w os)) ?_
  exact piece_nil (pcFin w os)
end Mine
/-! part HdK -/
namespace Mine
open PySem PySem.W PyProof.Rows PySem.Calls
/-- what the walk is to know of the heap behind the top -/
noncomputable def KK (P : Params) : Frag := (nat_lit 2, boot_o_2 P) :: (nat_lit 3, o3_78 P) :: (nat_lit 20, o20_9 P) :: (nat_lit 21, o21_9 P) :: (nat_lit 27, o27_9 P) :: (nat_lit 28, o28_9 P) :: (nat_lit 34, o34_9 P) :: (nat_lit 35, o35_9 P) :: (nat_lit 41, o41_9 P) :: (nat_lit 42, o42_9 P) :: (nat_lit 48, o48_9 P) :: (nat_lit 49, o49_9 P) :: (nat_lit 55, o55_9 P) :: (nat_lit 56, o56_9 P) :: (nat_lit 62, o62_9 P) :: (nat_lit 63, o63_9 P) :: (nat_lit 71, o71_10 P) :: (nat_lit 80, o80_11 P) :: (nat_lit 81, o81_11 P) :: (nat_lit 82, o82_12 P) :: (nat_lit 126, o126_63 P) :: (nat_lit 127, o127_63 P) :: (nat_lit 128, o128_64 P) :: (nat_lit 136, o136_78 P) :: (nat_lit 137, o137_78 P) :: (nat_lit 141, o141_78 P) :: (nat_lit 142, o142_78 P) :: (nat_lit 148, o148_78 P) :: (nat_lit 149, o149_78 P) :: (nat_lit 155, o155_78 P) :: (nat_lit 156, o156_78 P) :: (nat_lit 162, o162_78 P) :: (nat_lit 163, o163_78 P) :: (nat_lit 169, o169_78 P) :: (nat_lit 170, o170_78 P) :: (nat_lit 176, o176_78 P) :: (nat_lit 177, o177_78 P) :: (nat_lit 183, o183_78 P) :: (nat_lit 184, o184_78 P) :: (nat_lit 188, o188_78 P) :: (nat_lit 189, o189_78 P) :: (nat_lit 195, o195_78 P) :: (nat_lit 196, o196_78 P) :: (nat_lit 202, o202_78 P) :: (nat_lit 203, o203_78 P) :: (nat_lit 209, o209_78 P) :: (nat_lit 210, o210_78 P) :: (nat_lit 214, o214_78 P) :: (nat_lit 215, o215_78 P) :: []
noncomputable def KA : List Addr := [nat_lit 2, nat_lit 3, nat_lit 20, nat_lit 21, nat_lit 27, nat_lit 28, nat_lit 34, nat_lit 35, nat_lit 41, nat_lit 42, nat_lit 48, nat_lit 49, nat_lit 55, nat_lit 56, nat_lit 62, nat_lit 63, nat_lit 71, nat_lit 80, nat_lit 81, nat_lit 82, nat_lit 126, nat_lit 127, nat_lit 128, nat_lit 136, nat_lit 137, nat_lit 141, nat_lit 142, nat_lit 148, nat_lit 149, nat_lit 155, nat_lit 156, nat_lit 162, nat_lit 163, nat_lit 169, nat_lit 170, nat_lit 176, nat_lit 177, nat_lit 183, nat_lit 184, nat_lit 188, nat_lit 189, nat_lit 195, nat_lit 196, nat_lit 202, nat_lit 203, nat_lit 209, nat_lit 210, nat_lit 214, nat_lit 215]
theorem KA_eq (P : Params) : KA = (KK P).map (·.1) := by kernel_rfl
noncomputable abbrev hk : Hook := kHook KK KA KA_eq
noncomputable def qv : Program := view pw [77]
noncomputable abbrev loose0 : List Str := [Str.ofString "le", Str.ofString "ge", Str.ofString "add", Str.ofString "sub", Str.ofString "contains", Str.ofString "getitem", Str.ofString "indexOf", Str.ofString "b1_set", Str.ofString "in_table_b1", Str.ofString "b3_exceptions", Str.ofString "map_table_b3", Str.ofString "LPAR", Str.ofString "RPAR", Str.ofString "LSQB", Str.ofString "RSQB", Str.ofString "COLON", Str.ofString "COMMA", Str.ofString "SEMI", Str.ofString "PLUS", Str.ofString "MINUS", Str.ofString "STAR", Str.ofString "SLASH", Str.ofString "VBAR", Str.ofString "AMPER", Str.ofString "LESS", Str.ofString "GREATER", Str.ofString "EQUAL", Str.ofString "DOT", Str.ofString "PERCENT", Str.ofString "LBRACE", Str.ofString "RBRACE", Str.ofString "EQEQUAL", Str.ofString "NOTEQUAL", Str.ofString "LESSEQUAL", Str.ofString "GREATEREQUAL", Str.ofString "TILDE", Str.ofString "CIRCUMFLEX", Str.ofString "LEFTSHIFT", Str.ofString "RIGHTSHIFT", Str.ofString "DOUBLESTAR", Str.ofString "PLUSEQUAL", Str.ofString "MINEQUAL", Str.ofString "STAREQUAL", Str.ofString "SLASHEQUAL", Str.ofString "PERCENTEQUAL", Str.ofString "AMPEREQUAL", Str.ofString "VBAREQUAL", Str.ofString "CIRCUMFLEXEQUAL", Str.ofString "LEFTSHIFTEQUAL", Str.ofString "RIGHTSHIFTEQUAL", Str.ofString "DOUBLESTAREQUAL", Str.ofString "DOUBLESLASH", Str.ofString "DOUBLESLASHEQUAL", Str.ofString "AT", Str.ofString "ATEQUAL", Str.ofString "RARROW", Str.ofString "ELLIPSIS", Str.ofString "COLONEQUAL", Str.ofString "EXCLAMATION", Str.ofString "NT_OFFSET", Str.ofString "EXACT_TOKEN_TYPES", Str.ofString "ISNONTERMINAL", Str.ofString "_law_tree", Str.ofString "_law_plain", Str.ofString "_law_written", Str.ofString "_law_outer", Str.ofString "_law_put", Str.ofString "_law_inner", Str.ofString "_law_read", Str.ofString "_law_shown", Str.ofString "_law_heads", Str.ofString "_law_behind", Str.ofString "_law_stepped"]
abbrev rr : OpenRow := PySem.Challenge.rw_wf0081_01.row
noncomputable abbrev Xt0 : Shared → Bool := fun s => xlAt qv [] s && recOk (RowW.records rr.toRowW) s
noncomputable def HF (P : Params) : Heap := Heap.mk (Array.mk (lsF P)) life0
theorem hf_eq (P : Params) : absHeap (T78 P) n78 life0 = HF P := by kernel_rfl
theorem runF (w : World) (os : OsState) : TR w steps ⟨boot_heap w.params, Array.mk [], boot_drawn, boot_toks, os⟩ (topStub pw) = some ⟨HF w.params, #[], {}, tk78, os⟩ := by
  rw [← hf_eq]; exact runAll w os
theorem lk1 (w : World) (os : OsState) : (staticsOk (importedModules pw.main.body) (boot_heap w.params) (HF w.params) && namesBound pw (HF w.params) && gensDone ⟨HF w.params, #[], {}, tk78, os⟩ && laidKept (boot_heap w.params) (HF w.params)) = true := by kernel_rfl
theorem lk3 (w : World) (os : OsState) : hk.obs ⟨HF w.params, #[], {}, tk78, os⟩ = hk.val w := by kernel_rfl
theorem open0 : ∀ w : World, (fencedOpening treeTable pw w 40000).map (fun s => (s.heap, s.gens, s.drawn, s.toks)) = some (boot_heap w.params, Array.mk [], boot_drawn, boot_toks) :=
  boot_open (by kernel_rfl) (by decide) (fun s => by kernel_rfl)
theorem size0 (w : World) : ((boot_heap w.params).isNs mainGlobals && (Array.mk [] : Array GenState).size == 0, (boot_heap w.params).objs.size, (boot_heap w.params).nsMap mainGlobals "__annotations__") = (true, 11, an) := by kernel_rfl
end Mine
/-! part HdM -/
namespace Mine
open PySem PySem.W PyProof.Rows PySem.Calls
noncomputable abbrev sF (w : World) (os : OsState) : Shared := ⟨HF w.params, #[], {}, tk78, os⟩
theorem k1 (w : World) (os : OsState) : seen ((recsOf qv).map (·.name)) (ownsOf qv) [] { sF w os with gens := #[] } = expectedOf qv := by kernel_rfl
theorem k2 (w : World) (os : OsState) : (sF w os).heap.bltView = bltViewBooted := by kernel_rfl
theorem k3a (w : World) (os : OsState) : (sF w os).heap.keysOk (looseW qv loose0) ((recsOf qv).map (·.name)) ((litsOf qv).map (·.1)) ((clssOf qv (looseW qv loose0)).map (·.name)) = true := by kernel_rfl
theorem k3b (w : World) (os : OsState) : (sF w os).heap.accountedOkI (importedModules pw.main.body) = true := by kernel_rfl
theorem k3c (w : World) (os : OsState) : (sF w os).heap.isNs mainGlobals = true := by kernel_rfl
theorem k3d (w : World) (os : OsState) : (sF w os).heap.isNs builtinsNs = true := by kernel_rfl
theorem k3e (w : World) (os : OsState) : tablesOk qv (sF w os).heap = true := by kernel_rfl
theorem k3f (w : World) (os : OsState) : Xt0 (sF w os) = true := by kernel_rfl
theorem k4 (w : World) (os : OsState) : tabsOk qv (sF w os) = true := by kernel_rfl
theorem k5 (w : World) (os : OsState) : pinSeenD qv (drecsOf qv) (sF w os) = pinGoodD (drecsOf qv) := by kernel_rfl
theorem k6 (w : World) (os : OsState) : plainSeenE qv (looseW qv loose0) (sF w os) = plainGoodE qv (looseW qv loose0) := by kernel_rfl
theorem k7 (w : World) (os : OsState) : plainSeenD qv loose0 (sF w os) = plainGoodD qv loose0 := by kernel_rfl
theorem k8 (w : World) (os : OsState) : wideSeen qv (sF w os) = wideGood qv := by kernel_rfl
theorem k9 (w : World) (os : OsState) : clsSeenW qv loose0 (sF w os) = clsGoodW qv loose0 := by kernel_rfl
theorem and6 {a b c d e f : Bool} (h1 : a = true) (h2 : b = true) (h3 : c = true) (h4 : d = true) (h5 : e = true) (h6 : f = true) : (a && b && c && d && e && f && true) = true := by rw [h1, h2, h3, h4, h5, h6]; rfl
theorem lk2 (w : World) (os : OsState) : openSeen qv loose0 (importedModules pw.main.body) Xt0 true ⟨HF w.params, #[], {}, tk78, os⟩ = openGood qv loose0 := by
  refine looks_pair (k1 w os) (looks_pair (k2 w os) (looks_pair ?_ (looks_pair (k4 w os) (looks_pair (k5 w os) (looks_pair (k6 w os) (looks_pair (k7 w os) (looks_pair (k8 w os) (k9 w os))))))))
  exact and6 (k3a w os) (k3b w os) (k3c w os) (k3d w os) (k3e w os) (k3f w os)
theorem left : LeftO pw qv loose0 Xt0 hk.obs hk.val 40000 :=
  LeftO.of_pieces (H₀ := boot_heap) (H₁ := HF) (gs₀ := #[]) (gs₁ := #[]) (d₀ := boot_drawn) (d₁ := {}) (k₀ := boot_toks) (k₁ := tk78) (m₀ := 11) (ann := an) (M := steps) open0 size0 runF (by decide +kernel)
    fun w => funext fun os => looks_pair (lk1 w os) (looks_pair (lk2 w os) (lk3 w os))
end Mine
/-! part HdN -/
namespace Mine
open PySem PySem.W PyProof.Rows PySem.Calls
noncomputable def dl : DefRec := match stmtAt 77 with
  | .FunctionDef n a b _ _ _ sc _ _ p => { name := n, params := a, body := b, scope := sc, pos := p }
  | _ => { name := "", params := { posonlyargs := [], args := [], vararg := none, kwonlyargs := [], kw_defaults := [], kwarg := none, defaults := [] }, body := [], scope := pw.main.scope, pos := p0 }
theorem def0 : defOf qv rr.name = some (dl, []) := by kernel_rfl
theorem def1 : rr.prog.theDef rr.name = some (dl.params, dl.body, dl.scope) := by kernel_rfl
theorem def2 : kwWritten? dl.params.kwonlyargs dl.params.kw_defaults = some [] := by kernel_rfl
theorem ok0 : (chainsOk qv && opensWell rr.prog && (frees rr.toRowW && rr.within.isEmpty)) = true := by decide +kernel
theorem bare0 : rr.prog.bare := ⟨rfl, rfl, rfl, rfl, rfl, by decide +kernel⟩
theorem wr0 : (!rr.writes || rr.records.isEmpty) = true := by decide +kernel
theorem looks : looksOpen PySem.Challenge.rw_wf0081_01.row.prog = true := by
  rw [Fast.te12908688711261696721]
  unfold Fast.tw12908688711261696721
  repeat' (with_reducible refine look_both ?_ ?_)
  all_goals decide +kernel
theorem said1 : OpenRow.wellSaid PySem.Challenge.rw_wf0081_01.row = true := by
  unfold OpenRow.wellSaid OpenRow.partSaid
  rw [looks]
  kernel_rfl
theorem ws : OpenLaw.wellSaid PySem.Challenge.rw_wf0081_01 = true := by
  unfold OpenLaw.wellSaid
  rw [said1]
  repeat' (with_reducible refine look_both ?_ ?_)
  all_goals decide +kernel
set_option maxHeartbeats 8000000 in
theorem head (hc : WalkO qv loose0 (XL qv []) hk.says rr.toRowW dl [] fun f vs => PySem.call f vs) : PySem.Challenge.rw_wf0081_01.Holds := by
  refine holds_law ws fun said => ?_
  refine PySem.W.holds_open (r := rr) (q := qv) (loose := loose0) (Xt := Xt0) (XP := XL qv []) (Yf := hk.obs) (Ya := hk.val) (YP := hk.says) (N := 40000) left hk.of hk.keeps (fun s e => xl_of s (Bool.and_eq_true_iff.mp e).1) XL.keeps def0 def1 def2 (fun s e => recFacts_of (Bool.and_eq_true_iff.mp e).2) wr0 (by assumption) ok0 bare0 ?hw hc
  case hw => w_witness2
end Mine
/-! part W1 -/
namespace Mine
open PySem PySem.W PyProof.Rows PySem.Calls
noncomputable abbrev MM (w : World) : Model := model PySem.Challenge.rw_wf0081_01.row.prog w
noncomputable abbrev qq : Program := view pw [77]
noncomputable abbrev lq : List Str := looseW (view pw [77]) loose0

/-- where a call is made: the room, and what is known of the heap -/
structure At (w : World) (A : Around) (c : Nat) (h : Heap) : Prop where
  hd : A.handled = none
  depth : A.depth + c < recursionLimit
  units : A.units + 8 * c < cLine
  below : ∃ base outs, Below A base outs h
  kin : (KK w.params).In h
  top : ∃ mean mg mb, Top qq lq mean mg mb h
theorem At.le {w : World} {A : Around} {c c' : Nat} {h : Heap} (x : At w A c h) (hc : c' ≤ c) : At w A c' h :=
  ⟨x.hd, by have := x.depth; omega, by have := x.units; omega, x.below, x.kin, x.top⟩
theorem At.grow {w : World} {A : Around} {c : Nat} {h h' : Heap} (x : At w A c h) (k : h.StaysIn h') : At w A c h' := by
  obtain ⟨a, b, u, ⟨bs, os, B⟩, X, mn, mg, mb, T⟩ := x
  exact ⟨a, b, u, ⟨bs, os, B.stack, fun a o e => k a o (B.stays a o e), B.frames.of_keeps fun b o e _ => ⟨o, k b o e, rfl⟩⟩, X.keeps k, mn, mg, mb, T.keeps k⟩

/-- what a call of f does: from vs that are P, it gives back a value that is R, keeps every object, and never raises -/
noncomputable def Does (w : World) (f : Addr) (c : Nat) (P : Heap → List Value → Prop) (R : Heap → List Value → Heap → Value → Prop) : Prop :=
  ∀ (A : Around) (s : Shared) (vs : List Value) (Q E : Value → Shared → Prop), At w A c s.heap → P s.heap vs →
    (∀ r h' tk, s.heap.StaysIn h' → R s.heap vs h' r → Q r { s with heap := h', toks := tk }) → wpAny (MM w) A (call (.ref f) vs) Q E s

noncomputable abbrev fnO (pm cd : Value) (i : Nat) : Obj := ⟨.type "function", none, fnD i 3 pm cd, #[]⟩
structure Def where
  name : Str
  params : Arguments
  body : List Stmt
  scope : Scope
noncomputable def defAtI (i : Nat) : Def := match stmtAt i with
  | .FunctionDef n a b _ _ _ sc _ _ _ => ⟨n, a, b, sc⟩
  | _ => ⟨"", { posonlyargs := [], args := [], vararg := none, kwonlyargs := [], kw_defaults := [], kwarg := none, defaults := [] }, [], pw.main.scope⟩

/-- the end of a body -/
noncomputable def Fin1 (s : Shared) (L : Addr) (R : Heap → Value → Prop) (fl : Flow) (s' : Shared) : Prop := ∃ v h' tk' m', fl = .ret v ∧ s' = { s with heap := h', toks := tk' } ∧ Fr s.heap L h' m' ∧ R h' v
theorem Fin1.intro {s : Shared} {L : Addr} {R : Heap → Value → Prop} {v : Value} {h' : Heap} {tk : Nat} {m' : Str → Option Value} (F : Fr s.heap L h' m') (r : R h' v) : Fin1 s L R (.ret v) { s with heap := h', toks := tk } := ⟨v, h', tk, m', rfl, rfl, F, r⟩

theorem does_of {w : World} {f : Addr} {c : Nat} {P : Heap → List Value → Prop} {R : Heap → List Value → Heap → Value → Prop} {name : Str} {params : Arguments} {body : List Stmt} {scope : Scope} {pm cd : Value} {binds : List Value → List (Str × Value)}
    (ho : (KK w.params).lookup f = some ⟨.type "function", none, .func (docDef name params body scope pm cd .none), #[]⟩) (hcd : codeIn (KK w.params) cd name = true)
    (hb : ∀ h vs, P h vs → bindArgs (docDef name params body scope pm cd .none) ⟨vs, []⟩ = pure (binds vs) ∧ ((binds vs).all fun x => decide (scope.names.lookup x.1 = some .local)) = true)
    (hbody : ∀ (A : Around) (s : Shared) (vs : List Value) (h₁ : Heap) (tk : Nat) (base : Heap) (outs : List Env) (mean : ExcName → Option Value) (mg mb : Str → Option Value), (∀ h m, Fr s.heap s.heap.objs.size h m → At w (A.deeper (envOf name scope s.heap.objs.size f cd)) c h) → Below A base outs s.heap → (KK w.params).In s.heap → Top qq lq mean mg mb s.heap → P s.heap vs →
      Fr s.heap s.heap.objs.size h₁ (fun x => (binds vs).reverse.lookup x) →
      wpAny (MM w) (A.deeper (envOf name scope s.heap.objs.size f cd)) (execs body (envOf name scope s.heap.objs.size f cd))
        (Fin1 s s.heap.objs.size (R s.heap vs)) (fun _ _ => False) { s with heap := h₁, toks := tk })
    (hco : scope.isCoroutine = false) (hgen : scope.isGenerator = false) (hk : scope.kind = .function) (hcell : ∀ x ∈ scope.names, x.2 ≠ .cell) :
    Does w f (c + 1) P R := by
  intro A s vs Q E C hP ret
  obtain ⟨a1, a2, a3, ⟨base, outs, B⟩, X, mn, mg, mb, T⟩ := C
  obtain ⟨b1, b2⟩ := hb s.heap vs hP
  refine wpAny_call (call_plain (o := ⟨.type "function", none, .func (docDef name params body scope pm cd .none), #[]⟩) (name := name) (params := params) (body := body) (scope := scope) (pm := pm) (cd := cd) (doc := .none) (by omega) (X _ _ ho) rfl T.nolimit (codeRec_of X hcd) b1 (locs b2) (fun h₁ F => ?_) hco hgen hk hcell)
  have C' : ∀ h m, Fr s.heap s.heap.objs.size h m → At w (A.deeper (envOf name scope s.heap.objs.size f cd)) c h := fun h m F =>
    ⟨a1, by show A.depth + 1 + c < _; omega, by show A.units + 3 + 8 * c < _; omega, ⟨_, _, B.push F hk⟩, X.keeps F.keep, mn, mg, mb, T.keeps F.keep⟩
  refine wpAny_mono (hbody A s vs h₁ _ base outs mn mg mb C' B X T hP F) (fun fl s' x => ?_) (fun _ _ x => x.elim)
  obtain ⟨v, h', tk', m', rfl, rfl, F', r⟩ := x
  exact ret v h' tk' F'.keep r


/-- a call, from a frame: what is known stays known -/
theorem use_does {w : World} {A : Around} {f : Addr} {c c' : Nat} {P : Heap → List Value → Prop} {R : Heap → List Value → Heap → Value → Prop} {h₀ : Heap} {L : Addr} {m : Str → Option Value} {news : List (Addr × Obj)} {s : Shared} {vs : List Value} {Q E : Value → Shared → Prop}
    (D : Does w f c P R) (C : ∀ h m, Fr h₀ L h m → At w A c' h) (hc : c ≤ c') (F : Fr h₀ L s.heap m) (N : News h₀ L s.heap news) (hP : P s.heap vs)
    (k : ∀ r h' tk, Fr h₀ L h' m → News h₀ L h' news → s.heap.StaysIn h' → R s.heap vs h' r → Q r { s with heap := h', toks := tk }) : wpAny (MM w) A (call (.ref f) vs) Q E s := by
  refine D A s vs Q E ((C _ _ F).le hc) hP fun r h' tk st r' => k r h' tk ?_ ?_ st r'
  · obtain ⟨oL, e1, e2, hL, e3⟩ := F.ns
    exact ⟨⟨oL, e1, e2, st _ _ hL, e3⟩, fun b o e => st _ _ (F.keep b o e), F.above⟩
  · exact fun p hp => ⟨st _ _ (N p hp).1, (N p hp).2⟩

theorem isi_tup {prog : Program} {w : World} {A : Around} {E : Value → Shared → Prop} {s : Shared} {Q : Value → Shared → Prop} {a : Addr} {xs : Array Value} (ht : IsTup s.heap a xs) (h : Q (.bool true) s) : wpAny (model prog w) A (call (.builtin "isinstance") [.ref a, .type "tuple"]) Q E s := by
  obtain ⟨o, hx, hc, _⟩ := ht
  exact call_isinstance (isinstance_true (Tx := "tuple") F.isi_meta_tuple F.sub_tuple_tuple) ⟨⟨o, hx, hc⟩, h⟩
end Mine
/-! part W2 -/
namespace Mine
open PySem PySem.W PyProof.Rows PySem.Calls
theorem look_le (P : Params) : (KK P).lookup 21 = some ⟨.type "function", none, .func (docDef (defAtI 1).name (defAtI 1).params (defAtI 1).body (defAtI 1).scope (sv "cpy313.operator" 187) (.ref 20) .none), #[]⟩ := by kernel_rfl
theorem look_ge (P : Params) : (KK P).lookup 28 = some ⟨.type "function", none, .func (docDef (defAtI 2).name (defAtI 2).params (defAtI 2).body (defAtI 2).scope (sv "cpy313.operator" 187) (.ref 27) .none), #[]⟩ := by kernel_rfl
theorem look_add (P : Params) : (KK P).lookup 35 = some ⟨.type "function", none, .func (docDef (defAtI 3).name (defAtI 3).params (defAtI 3).body (defAtI 3).scope (sv "cpy313.operator" 187) (.ref 34) .none), #[]⟩ := by kernel_rfl
theorem look_sub (P : Params) : (KK P).lookup 42 = some ⟨.type "function", none, .func (docDef (defAtI 4).name (defAtI 4).params (defAtI 4).body (defAtI 4).scope (sv "cpy313.operator" 187) (.ref 41) .none), #[]⟩ := by kernel_rfl
theorem look_contains (P : Params) : (KK P).lookup 49 = some ⟨.type "function", none, .func (docDef (defAtI 5).name (defAtI 5).params (defAtI 5).body (defAtI 5).scope (sv "cpy313.operator" 187) (.ref 48) .none), #[]⟩ := by kernel_rfl
theorem look_getitem (P : Params) : (KK P).lookup 56 = some ⟨.type "function", none, .func (docDef (defAtI 6).name (defAtI 6).params (defAtI 6).body (defAtI 6).scope (sv "cpy313.operator" 187) (.ref 55) .none), #[]⟩ := by kernel_rfl
theorem look_indexOf (P : Params) : (KK P).lookup 63 = some ⟨.type "function", none, .func (docDef (defAtI 7).name (defAtI 7).params (defAtI 7).body (defAtI 7).scope (sv "cpy313.operator" 187) (.ref 62) .none), #[]⟩ := by kernel_rfl
theorem look_in_table_b1 (P : Params) : (KK P).lookup 81 = some ⟨.type "function", none, .func (docDef (defAtI 10).name (defAtI 10).params (defAtI 10).body (defAtI 10).scope (sv "cpy313.stringprep" 247) (.ref 80) .none), #[]⟩ := by kernel_rfl
theorem look_map_table_b3 (P : Params) : (KK P).lookup 127 = some ⟨.type "function", none, .func (docDef (defAtI 12).name (defAtI 12).params (defAtI 12).body (defAtI 12).scope (sv "cpy313.stringprep" 247) (.ref 126) .none), #[]⟩ := by kernel_rfl
theorem look_ISNONTERMINAL (P : Params) : (KK P).lookup 137 = some ⟨.type "function", none, .func (docDef (defAtI 64).name (defAtI 64).params (defAtI 64).body (defAtI 64).scope (sv "cpy313.token" 2275) (.ref 136) .none), #[]⟩ := by kernel_rfl
theorem look_tree (P : Params) : (KK P).lookup 142 = some ⟨.type "function", none, .func (docDef (defAtI 66).name (defAtI 66).params (defAtI 66).body (defAtI 66).scope (sv "law_wf0081_01" 2479) (.ref 141) .none), #[]⟩ := by kernel_rfl
theorem look_plain (P : Params) : (KK P).lookup 149 = some ⟨.type "function", none, .func (docDef (defAtI 67).name (defAtI 67).params (defAtI 67).body (defAtI 67).scope (sv "law_wf0081_01" 2479) (.ref 148) .none), #[]⟩ := by kernel_rfl
theorem look_written (P : Params) : (KK P).lookup 156 = some ⟨.type "function", none, .func (docDef (defAtI 68).name (defAtI 68).params (defAtI 68).body (defAtI 68).scope (sv "law_wf0081_01" 2479) (.ref 155) .none), #[]⟩ := by kernel_rfl
theorem look_outer (P : Params) : (KK P).lookup 163 = some ⟨.type "function", none, .func (docDef (defAtI 69).name (defAtI 69).params (defAtI 69).body (defAtI 69).scope (sv "law_wf0081_01" 2479) (.ref 162) .none), #[]⟩ := by kernel_rfl
theorem look_put (P : Params) : (KK P).lookup 170 = some ⟨.type "function", none, .func (docDef (defAtI 70).name (defAtI 70).params (defAtI 70).body (defAtI 70).scope (sv "law_wf0081_01" 2479) (.ref 169) .none), #[]⟩ := by kernel_rfl
theorem look_inner (P : Params) : (KK P).lookup 177 = some ⟨.type "function", none, .func (docDef (defAtI 71).name (defAtI 71).params (defAtI 71).body (defAtI 71).scope (sv "law_wf0081_01" 2479) (.ref 176) .none), #[]⟩ := by kernel_rfl
theorem look_read (P : Params) : (KK P).lookup 184 = some ⟨.type "function", none, .func (docDef (defAtI 72).name (defAtI 72).params (defAtI 72).body (defAtI 72).scope (sv "law_wf0081_01" 2479) (.ref 183) .none), #[]⟩ := by kernel_rfl
theorem look_shown (P : Params) : (KK P).lookup 189 = some ⟨.type "function", none, .func (docDef (defAtI 73).name (defAtI 73).params (defAtI 73).body (defAtI 73).scope (sv "law_wf0081_01" 2479) (.ref 188) .none), #[]⟩ := by kernel_rfl
theorem look_heads (P : Params) : (KK P).lookup 196 = some ⟨.type "function", none, .func (docDef (defAtI 74).name (defAtI 74).params (defAtI 74).body (defAtI 74).scope (sv "law_wf0081_01" 2479) (.ref 195) .none), #[]⟩ := by kernel_rfl
theorem look_behind (P : Params) : (KK P).lookup 203 = some ⟨.type "function", none, .func (docDef (defAtI 75).name (defAtI 75).params (defAtI 75).body (defAtI 75).scope (sv "law_wf0081_01" 2479) (.ref 202) .none), #[]⟩ := by kernel_rfl
theorem look_stepped (P : Params) : (KK P).lookup 210 = some ⟨.type "function", none, .func (docDef (defAtI 76).name (defAtI 76).params (defAtI 76).body (defAtI 76).scope (sv "law_wf0081_01" 2479) (.ref 209) .none), #[]⟩ := by kernel_rfl

end Mine
/-! part W3 -/
namespace Mine
open PySem PySem.W PyProof.Rows PySem.Calls
/-- the four letters -/
inductive Le where | i | k | b | c
  deriving DecidableEq
noncomputable def Le.str : Le → Str
  | .i => Str.ofString "i" | .k => Str.ofString "k" | .b => Str.ofString "b" | .c => Str.ofString "c"
inductive Tr where
  | lf (x : Le)
  | ap (l r : Tr)
noncomputable def Tr.size : Tr → Nat
  | .lf _ => 1
  | .ap l r => l.size + r.size
noncomputable def Tr.depth : Tr → Nat
  | .lf _ => 0
  | .ap l r => max l.depth r.depth + 1
/-- the value v is the tree -/
inductive TreeAt (h : Heap) : Value → Tr → Prop where
  | lf (x : Le) (t : Tok) : TreeAt h (.str x.str t) (.lf x)
  | ap {a : Addr} {x y : Value} {l r : Tr} : IsTup h a #[x, y] → TreeAt h x l → TreeAt h y r → TreeAt h (.ref a) (.ap l r)
theorem TreeAt.keeps {h h' : Heap} {v : Value} {t : Tr} (x : TreeAt h v t) (k : h.StaysIn h') : TreeAt h' v t := by
  induction x with
  | lf x t => exact .lf x t
  | ap i _ _ a b => exact .ap (i.keeps k) a b
noncomputable def Tr.text : Tr → Str
  | .lf x => x.str
  | .ap l r => Str.ofString "@" ++ l.text ++ r.text

theorem le_len (x : Le) : x.str.length = 1 := by cases x <;> rfl
theorem Tr.size_pos (t : Tr) : 0 < t.size := by
  induction t with
  | lf x => exact Nat.one_pos
  | ap l r a b => show 0 < l.size + r.size; omega
theorem Tr.text_len (t : Tr) : t.text.length + 1 = 2 * t.size := by
  induction t with
  | lf x => show x.str.length + 1 = 2; rw [le_len]
  | ap l r a b =>
    show (Str.ofString "@" ++ l.text ++ r.text).length + 1 = 2 * (l.size + r.size)
    rw [Str.length_append, Str.length_append]
    have : (Str.ofString "@").length = 1 := rfl
    have := l.size_pos
    have := r.size_pos
    omega
noncomputable def DoesPlain (w : World) (t : Tr) : Prop := t.size ≤ 8 → ∀ v, Does w 149 (t.depth + 2) (fun h vs => vs = [v] ∧ TreeAt h v t) (fun _ _ _ r => ∃ tk, r = .str t.text tk)
theorem fill0 : KK = KK ∧ PySem.Challenge.rw_wf0081_01 = PySem.Challenge.rw_wf0081_01 := by
  k_fill
  exact ⟨rfl, rfl⟩
local macro_rules | `(tactic| walk_at "call builtin:isinstance") => `(tactic| (k_here; (with_reducible show wpAny _ _ (call (Value.builtin "isinstance") [Value.ref _, Value.type "tuple"]) _ _ _); (refine isi_tup (Fr.tup (by assumption) (by assumption)) ?_)))

set_option maxHeartbeats 8000000 in
theorem does_plain (w : World) (t : Tr) : DoesPlain w t := by
  induction t with
  | lf x =>
    intro _ v
    refine does_of (binds := fun vs => (["tree"] : List Str).zip vs) (look_plain _) (by kernel_rfl) ?_ ?_ (by kernel_rfl) (by kernel_rfl) (by kernel_rfl) (by decide +kernel)
    · rintro h vs ⟨rfl, _⟩
      exact ⟨by kernel_rfl, by kernel_rfl⟩
    · rintro A s _ h₁ tk base outs mean mg mb C B X T ⟨rfl, hT⟩ F
      cases hT with | lf x t =>
      w_on
      have N : News s.heap s.heap.objs.size h₁ [] := News.nil
      k_steps
      dsimp only
      exact Fin1.intro F ⟨_, rfl⟩
  | ap l r hl hr =>
    intro hz v
    have hz' : l.size + r.size ≤ 8 := hz
    have l1 := l.text_len
    have l2 := r.text_len
    refine does_of (binds := fun vs => (["tree"] : List Str).zip vs) (look_plain _) (by kernel_rfl) ?_ ?_ (by kernel_rfl) (by kernel_rfl) (by kernel_rfl) (by decide +kernel)
    · rintro h vs ⟨rfl, _⟩
      exact ⟨by kernel_rfl, by kernel_rfl⟩
    · rintro A s _ h₁ tk base outs mean mg mb C B X T ⟨rfl, hT⟩ F
      cases hT with | ap hi hx hy =>
      w_on
      have N : News s.heap s.heap.objs.size h₁ [] := News.nil
      k_steps
      refine use_does (hl (by omega) _) C (by show l.depth + 2 ≤ max l.depth r.depth + 1 + 1; omega) (by assumption) (by assumption) ⟨rfl, hx.keeps F.keep⟩ ?_
      rintro _ h' tk F' N' st ⟨tk2, rfl⟩
      k_steps
      refine use_does (hr (by omega) _) C (by show r.depth + 2 ≤ max l.depth r.depth + 1 + 1; omega) (by assumption) (by assumption) ⟨rfl, (hy.keeps F.keep).keeps st⟩ ?_
      rintro _ h2 tk3 F2 N2 st2 ⟨tk4, rfl⟩
      k_steps
      dsimp only
      exact Fin1.intro F2 ⟨_, rfl⟩
end Mine
/-! part W4 -/
namespace Mine
open PySem PySem.W PyProof.Rows PySem.Calls
theorem fill1 : KK = KK ∧ PySem.Challenge.rw_wf0081_01 = PySem.Challenge.rw_wf0081_01 := by
  k_fill
  exact ⟨rfl, rfl⟩
set_option maxHeartbeats 8000000
theorem does_ge (w : World) (x y : Int) (tx ty : Tok) : Does w 28 2 (fun _ vs => vs = [.int x tx, .int y ty]) (fun _ _ _ r => r = .bool (decide (y ≤ x))) := by
  refine does_of (binds := fun vs => (["a", "b"] : List Str).zip vs) (look_ge _) (by kernel_rfl) ?_ ?_ (by kernel_rfl) (by kernel_rfl) (by kernel_rfl) (by decide +kernel)
  · rintro h _ rfl
    exact ⟨by kernel_rfl, by kernel_rfl⟩
  · rintro A s _ h₁ tk base outs mean mg mb C B X T rfl F
    w_on
    have N : News s.heap s.heap.objs.size h₁ [] := News.nil
    k_steps
    dsimp only
    exact Fin1.intro F rfl
theorem does_le (w : World) (x y : Int) (tx ty : Tok) : Does w 21 2 (fun _ vs => vs = [.int x tx, .int y ty]) (fun _ _ _ r => r = .bool (decide (x ≤ y))) := by
  refine does_of (binds := fun vs => (["a", "b"] : List Str).zip vs) (look_le _) (by kernel_rfl) ?_ ?_ (by kernel_rfl) (by kernel_rfl) (by kernel_rfl) (by decide +kernel)
  · rintro h _ rfl
    exact ⟨by kernel_rfl, by kernel_rfl⟩
  · rintro A s _ h₁ tk base outs mean mg mb C B X T rfl F
    w_on
    have N : News s.heap s.heap.objs.size h₁ [] := News.nil
    k_steps
    dsimp only
    exact Fin1.intro F rfl
theorem does_sub (w : World) (x y : Int) (tx ty : Tok) : Does w 42 2 (fun _ vs => vs = [.int x tx, .int y ty] ∧ x.natAbs < 2 ^ 62 ∧ y.natAbs < 2 ^ 62) (fun _ _ _ r => ∃ t, r = .int (x - y) t) := by
  refine does_of (binds := fun vs => (["a", "b"] : List Str).zip vs) (look_sub _) (by kernel_rfl) ?_ ?_ (by kernel_rfl) (by kernel_rfl) (by kernel_rfl) (by decide +kernel)
  · rintro h _ ⟨rfl, _⟩
    exact ⟨by kernel_rfl, by kernel_rfl⟩
  · rintro A s _ h₁ tk base outs mean mg mb C B X T ⟨rfl, hx, hy⟩ F
    w_on
    have N : News s.heap s.heap.objs.size h₁ [] := News.nil
    k_steps
    dsimp only
    exact Fin1.intro F ⟨_, rfl⟩
theorem does_addI (w : World) (x y : Int) (tx ty : Tok) : Does w 35 2 (fun _ vs => vs = [.int x tx, .int y ty] ∧ x.natAbs < 2 ^ 62 ∧ y.natAbs < 2 ^ 62) (fun _ _ _ r => ∃ t, r = .int (x + y) t) := by
  refine does_of (binds := fun vs => (["a", "b"] : List Str).zip vs) (look_add _) (by kernel_rfl) ?_ ?_ (by kernel_rfl) (by kernel_rfl) (by kernel_rfl) (by decide +kernel)
  · rintro h _ ⟨rfl, _⟩
    exact ⟨by kernel_rfl, by kernel_rfl⟩
  · rintro A s _ h₁ tk base outs mean mg mb C B X T ⟨rfl, hx, hy⟩ F
    w_on
    have N : News s.heap s.heap.objs.size h₁ [] := News.nil
    k_steps
    dsimp only
    exact Fin1.intro F ⟨_, rfl⟩
theorem does_isnt (w : World) (x : Int) (tx : Tok) : Does w 137 2 (fun _ vs => vs = [.int x tx]) (fun _ _ _ r => r = .bool (decide (256 ≤ x))) := by
  refine does_of (binds := fun vs => (["x"] : List Str).zip vs) (look_ISNONTERMINAL _) (by kernel_rfl) ?_ ?_ (by kernel_rfl) (by kernel_rfl) (by kernel_rfl) (by decide +kernel)
  · rintro h _ rfl
    exact ⟨by kernel_rfl, by kernel_rfl⟩
  · rintro A s _ h₁ tk base outs mean mg mb C B X T rfl F
    w_on
    have N : News s.heap s.heap.objs.size h₁ [] := News.nil
    k_steps
    dsimp only
    exact Fin1.intro F rfl
/-- the list of these ints -/
noncomputable def IntsAt (h : Heap) (a : Addr) (ns : List Int) : Prop := ∃ vs, h.IsList a vs.toArray ∧ IntsAre vs ns
theorem IntsAt.keeps {h h' : Heap} {a : Addr} {ns : List Int} (x : IntsAt h a ns) (k : h.StaysIn h') : IntsAt h' a ns := by
  obtain ⟨vs, ⟨o, ho, r⟩, hi⟩ := x
  exact ⟨vs, ⟨o, k _ _ ho, r⟩, hi⟩
theorem does_addL (w : World) (x y : Addr) (ns ms : List Int) : Does w 35 2 (fun h vs => vs = [.ref x, .ref y] ∧ IntsAt h x ns ∧ IntsAt h y ms ∧ ns.length < 1000 ∧ ms.length < 1000) (fun _ _ h' r => ∃ a, r = .ref a ∧ IntsAt h' a (ns ++ ms)) := by
  refine does_of (binds := fun vs => (["a", "b"] : List Str).zip vs) (look_add _) (by kernel_rfl) ?_ ?_ (by kernel_rfl) (by kernel_rfl) (by kernel_rfl) (by decide +kernel)
  · rintro h _ ⟨rfl, _⟩
    exact ⟨by kernel_rfl, by kernel_rfl⟩
  · rintro A s _ h₁ tk base outs mean mg mb C B X T ⟨rfl, ⟨vs, hl, hi⟩, ⟨us, ml, mi⟩, l1, l2⟩ F
    w_on
    have N : News s.heap s.heap.objs.size h₁ [] := News.nil
    have e1 := hi.length
    have e2 := mi.length
    k_steps
    dsimp only
    rename_i D ws h2 F2 N2 hI _
    exact Fin1.intro F2 ⟨_, rfl, ws, ⟨_, (N2 _ (.head _)).1, rfl, _, rfl⟩, hI⟩
end Mine
/-! part W6 -/
namespace Mine
open PySem PySem.W PyProof.Rows PySem.Calls
/-- a mark: the walk is to stop here -/
structure Stop (P : Prop) : Prop where
  go : P
theorem stop_ {P : Prop} (h : Stop P) : P := h.go
noncomputable def isSeq (o : Obj) : Prop := ∃ xs n, o.data = .seq xs n
/-- every list and every tuple stays as it is -/
noncomputable def SeqStay (h h' : Heap) : Prop := ∀ b o, isSeq o → h.get? b = some o → h'.get? b = some o
theorem SeqStay.refl (h : Heap) : SeqStay h h := fun _ _ _ e => e
theorem SeqStay.trans {a b c : Heap} (x : SeqStay a b) (y : SeqStay b c) : SeqStay a c := fun q o i e => y q o i (x q o i e)
theorem SeqStay.of {h h' : Heap} (k : h.StaysIn h') : SeqStay h h' := fun b o _ e => k b o e
theorem IsTup.seqStay {h h' : Heap} {a : Addr} {xs : Array Value} (x : IsTup h a xs) (k : SeqStay h h') : IsTup h' a xs := by
  obtain ⟨o, ho, hc, n, hd⟩ := x
  exact ⟨o, k a o ⟨_, _, hd⟩ ho, hc, n, hd⟩
theorem IsList.seqStay {h h' : Heap} {a : Addr} {xs : Array Value} (x : h.IsList a xs) (k : SeqStay h h') : h'.IsList a xs := by
  obtain ⟨o, ho, hc, n, hd⟩ := x
  exact ⟨o, k a o ⟨_, _, hd⟩ ho, hc, n, hd⟩
theorem TreeAt.seqStay {h h' : Heap} {v : Value} {t : Tr} (x : TreeAt h v t) (k : SeqStay h h') : TreeAt h' v t := by
  induction x with
  | lf x t => exact .lf x t
  | ap i _ _ a b => exact .ap (Mine.IsTup.seqStay i k) a b
theorem IntsAt.seqStay {h h' : Heap} {a : Addr} {ns : List Int} (x : IntsAt h a ns) (k : SeqStay h h') : IntsAt h' a ns := by
  obtain ⟨vs, hl, hi⟩ := x
  exact ⟨vs, Mine.IsList.seqStay hl k, hi⟩

/-- the objects behind the base, but for the frame's own and those of xs -/
noncomputable def allBut (h₀ : Heap) (xs : List Addr) (h : Heap) : List (Addr × Obj) :=
  (List.range h.objs.size).filterMap fun a => if (h₀.get? a).isNone && !xs.contains a then (h.get? a).map fun o => (a, o) else none
theorem mem_allBut {h₀ h : Heap} {xs : List Addr} {a : Addr} {o : Obj} : (a, o) ∈ allBut h₀ xs h ↔ h.get? a = some o ∧ h₀.get? a = none ∧ a ∉ xs := by
  unfold allBut
  rw [List.mem_filterMap]
  constructor
  · rintro ⟨b, _, e⟩
    split at e
    · rename_i hc
      obtain ⟨o', ho', e'⟩ := Option.map_eq_some_iff.mp e
      obtain ⟨rfl, rfl⟩ := Prod.mk.inj e'
      simp only [Bool.and_eq_true, Option.isNone_iff_eq_none, Bool.not_eq_true', List.contains_eq_mem, decide_eq_false_iff_not] at hc
      exact ⟨ho', hc.1, hc.2⟩
    · cases e
  · rintro ⟨h1, h2, h3⟩
    refine ⟨a, List.mem_range.mpr (Heap.lt_size h1), ?_⟩
    rw [if_pos (by simp [h2, h3]), h1]; rfl
theorem news_allBut {h₀ h : Heap} {L : Addr} {xs : List Addr} (hL : L ∈ xs) : News h₀ L h (allBut h₀ xs h) := by
  rintro ⟨a, o⟩ hp
  obtain ⟨h1, h2, h3⟩ := mem_allBut.mp hp
  exact ⟨h1, fun e => h3 (by rw [show a = L from e]; exact hL), h2⟩
theorem Fr.notSeq {h₀ h : Heap} {L : Addr} {m : Str → Option Value} (F : Fr h₀ L h m) {o : Obj} (e : h.get? L = some o) : ¬ isSeq o := by
  obtain ⟨oL, es, ep, hL, hd, _⟩ := F.ns
  rw [hL] at e
  rintro ⟨xs, n, q⟩
  rw [← Option.some.inj e, hd] at q
  cases q
/-- all but the frame stays, as the ledger of all tells -/
theorem stay_of {h₀ h h' : Heap} {L : Addr} {xs : List Addr} {m m' : Str → Option Value} {news' : List (Addr × Obj)} (F : Fr h₀ L h m) (F' : Fr h₀ L h' m') (N' : News h₀ L h' news') (hs : ∀ p ∈ allBut h₀ xs h, p ∈ news') :
    ∀ b o, b ∉ xs → h.get? b = some o → h'.get? b = some o := by
  intro b o hb e
  cases q : h₀.get? b with
  | some o' =>
    have e1 := F.keep b o' q
    rw [e] at e1
    rw [Option.some.inj e1]
    exact F'.keep b o' q
  | none => exact (N' _ (hs _ (mem_allBut.mpr ⟨e, q, hb⟩))).1
theorem seqStay_of {h₀ h h' : Heap} {L : Addr} {m m' : Str → Option Value} {news' : List (Addr × Obj)} (F : Fr h₀ L h m) (F' : Fr h₀ L h' m') (N' : News h₀ L h' news') (hs : ∀ p ∈ allBut h₀ [L] h, p ∈ news') : SeqStay h h' := by
  intro b o i e
  refine stay_of F F' N' hs b o (fun hb => ?_) e
  rw [List.mem_singleton.mp hb] at e
  exact Fr.notSeq F e i

/-- the end of a loop's turn -/
noncomputable def Turn (s : Shared) (h₀ : Heap) (L : Addr) (W : List (Addr × Obj)) (J : Heap → (Str → Option Value) → Prop) (s' : Shared) : Prop :=
  ∃ h' tk' m' news', s' = { s with heap := h', toks := tk' } ∧ Fr h₀ L h' m' ∧ News h₀ L h' news' ∧ (∀ p ∈ W, p ∈ news') ∧ J h' m'
theorem Turn.intro {s : Shared} {h₀ h' : Heap} {L : Addr} {W news' : List (Addr × Obj)} {J : Heap → (Str → Option Value) → Prop} {tk' : Nat} {m' : Str → Option Value} (F : Fr h₀ L h' m') (N : News h₀ L h' news') (hs : ∀ p ∈ W, p ∈ news') (j : J h' m') :
    Turn s h₀ L W J { s with heap := h', toks := tk' } := ⟨h', tk', m', news', rfl, F, N, hs, j⟩
noncomputable def TurnF (s : Shared) (h₀ : Heap) (L : Addr) (W : List (Addr × Obj)) (J : Heap → (Str → Option Value) → Prop) (Q : Flow → Shared → Prop) (fl : Flow) (s' : Shared) : Prop :=
  match fl with
  | .next => Turn s h₀ L W J s'
  | .cont => Turn s h₀ L W J s'
  | .brk => Q .next s'
  | .ret v => Q (.ret v) s'

section
variable {prog : Program} {w : World} {A : Around} {s : Shared} {env : Env} {h₀ : Heap}
theorem forW {x : Str} {px : Pos} {body : List Stmt} {Q : Flow → Shared → Prop} {I : Addr} {fp wr : List Addr} {n : Nat} {P : Nat → Value → Prop} {St : Nat → Heap → Prop} {m : Str → Option Value} (J : Nat → Heap → (Str → Option Value) → Prop)
    (W : Walks prog w A I fp wr n P St) (hx : env.kindOf x = some .local) (hk : env.scope.kind = .function) (hLf : env.locals ∉ fp) (hwr : ∀ b ∈ wr, h₀.get? b = none)
    (hns : ∀ i h b o, St i h → b ∈ wr → h.get? b = some o → ¬ isSeq o)
    (st : ∀ i h h' m, J i h m → SeqStay h h' → J i h' m) (hst : St 0 s.heap) (F : Fr h₀ env.locals s.heap m) (hJ : J 0 s.heap m)
    (turn : ∀ i v h tk m, i < n → P i v → J i h m → Fr h₀ env.locals h (fun y => if y = x then some v else m y) → News h₀ env.locals h (allBut h₀ [env.locals] h) →
      wpAny (model prog w) A (execs body env) (TurnF s h₀ env.locals (allBut h₀ [env.locals] h) (J (i + 1)) Q) (fun _ _ => False) { s with heap := h, toks := tk })
    (done : ∀ h tk m, J n h m → Fr h₀ env.locals h m → Q .next { s with heap := h, toks := tk }) :
    codeAny (model prog w) A (.forLoop (.Name x px) (.ref I) body [] env) (fun r s' => match r with | .ok f => Q f s' | .error e => cameBackBy (model prog w) A env (fun _ _ => False) e s') s := by
  refine codeAny_forLoop (fun k s' => ∃ i h tk m', k = n + 1 - i ∧ i ≤ n ∧ s' = { s with heap := h, toks := tk } ∧ St i h ∧ J i h m' ∧ Fr h₀ env.locals h m') ?_ (n + 1) ⟨0, s.heap, s.toks, m, rfl, Nat.zero_le _, rfl, hst, hJ, F⟩
  rintro k _ ⟨i, h, tk, m', rfl, hi, rfl, hs, hj, F'⟩
  have hLw : env.locals ∉ wr := fun e => hLf (W.sub _ e)
  by_cases hin : i < n
  · refine W.item i _ _ _ hin hs fun v h1 tk1 hP hs1 hk1 => ?_
    have F1 : Fr h₀ env.locals h1 m' := by
      obtain ⟨oL, e1, e2, hL, e3⟩ := F'.ns
      exact ⟨⟨oL, e1, e2, hk1 _ _ hLw hL, e3⟩, fun b o e => hk1 b o (fun hb => by rw [hwr b hb] at e; cases e) (F'.keep b o e), F'.above⟩
    have S1 : SeqStay h h1 := fun b o is e => hk1 b o (fun hb => hns i h b o hs hb e is) e
    refine wpAny_assign_Name (wpAny_storeName_local hx F1.ns (fun h2 hn2 hs2 => ?_) (by rw [hk]; rfl))
    have F2 : Fr h₀ env.locals h2 (fun y => if y = x then some v else m' y) := F1.set hn2 hs2
    have S2 : SeqStay h1 h2 := fun b o is e => (hs2.2 b fun hb => Mine.Fr.notSeq F1 (by rw [← hb]; exact e) is).trans e
    have St2 : St (i + 1) h2 := W.frame _ _ _ hs1 fun b hb o e => (hs2.2 b fun e' => hLf (e' ▸ hb)).trans e
    refine wpAny_mono (turn i v h2 _ m' hin hP (st _ _ _ _ hj (S1.trans S2)) F2 (news_allBut (by simp))) (fun fl s3 t => ?_) (fun _ _ e => e.elim)
    have fin : Turn s h₀ env.locals (allBut h₀ [env.locals] h2) (J (i + 1)) s3 → ∃ m, m < n + 1 - i ∧ ∃ i' h tk m', m = n + 1 - i' ∧ i' ≤ n ∧ s3 = { s with heap := h, toks := tk } ∧ St i' h ∧ J i' h m' ∧ Fr h₀ env.locals h m' := by
      rintro ⟨h3, tk3, m3, news3, rfl, F3, N3, hs3, j3⟩
      exact ⟨n + 1 - (i + 1), by omega, i + 1, h3, tk3, m3, rfl, hin, rfl, W.frame _ _ _ St2 (fun b hb o e => stay_of F2 F3 N3 hs3 b o (fun e' => hLf ((List.mem_singleton.mp e') ▸ hb)) e), j3, F3⟩
    cases fl with
    | next => exact fin t
    | cont => exact fin t
    | brk => exact t
    | ret v => exact t
  · obtain rfl : i = n := by omega
    refine W.done _ _ _ hs fun h1 tk1 hk1 => wpAny_execs_nil ?_
    have F1 : Fr h₀ env.locals h1 m' := by
      obtain ⟨oL, e1, e2, hL, e3⟩ := F'.ns
      exact ⟨⟨oL, e1, e2, hk1 _ _ hLw hL, e3⟩, fun b o e => hk1 b o (fun hb => by rw [hwr b hb] at e; cases e) (F'.keep b o e), F'.above⟩
    exact done h1 tk1 m' (st _ _ _ _ hj fun b o is e => hk1 b o (fun hb => hns i h b o hs hb e is) e) F1

/-- a for over a list -/
theorem for_list {x : Str} {px : Pos} {body : List Stmt} {Q : Flow → Shared → Prop} {l : Addr} {items : Array Value} {m : Str → Option Value} (J : Nat → Heap → (Str → Option Value) → Prop)
    (hh : A.handled = none) (hl : s.heap.IsList l items) (hx : env.kindOf x = some .local) (hk : env.scope.kind = .function)
    (st : ∀ i h h' m, J i h m → SeqStay h h' → J i h' m) (F : Fr h₀ env.locals s.heap m) (hJ : J 0 s.heap m)
    (turn : ∀ i v h tk m, items[i]? = some v → J i h m → Fr h₀ env.locals h (fun y => if y = x then some v else m y) → News h₀ env.locals h (allBut h₀ [env.locals] h) →
      wpAny (model prog w) A (execs body env) (TurnF s h₀ env.locals (allBut h₀ [env.locals] h) (J (i + 1)) Q) (fun _ _ => False) { s with heap := h, toks := tk })
    (done : ∀ h tk m, J items.size h m → Fr h₀ env.locals h m → Q .next { s with heap := h, toks := tk }) :
    wpAny (model prog w) A (pyIter (.ref l)) (fun it s₂ => codeAny (model prog w) A (.forLoop (.Name x px) it body [] env) (fun r s' => match r with | .ok f => Q f s' | .error e => cameBackBy (model prog w) A env (fun _ _ => False) e s') s₂) (fun _ _ => False) s := by
  obtain ⟨ol, hol, _, nl, hdl⟩ := id hl
  have hlt : l < s.heap.objs.size := Heap.lt_size hol
  refine wpAny_pyIter_list hl ?_
  have hLl : env.locals ≠ l := fun e => Mine.Fr.notSeq F (by rw [e]; exact hol) ⟨_, _, hdl⟩
  refine forW (s := { s with heap := s.heap.push _ }) J (Walks.list hh s.heap.objs.size l (Nat.ne_of_lt hlt) items) hx hk (fun hm => ?_) (fun b hb => ?_) (fun i h b o hs hb e is => ?_) st ⟨⟨_, Heap.get?_push_size _ rfl, rfl, rfl⟩, hl.at fun o e => Heap.get?_push_of_some _ e⟩ (F.push _) (st _ _ _ _ hJ (SeqStay.of fun b o e => Heap.get?_push_of_some _ e))
    (fun i v h tk m hi hP => turn i v h tk m hP) done
  · rcases List.mem_cons.mp hm with e | hm
    · exact absurd F.ns.lt (e ▸ Nat.lt_irrefl _)
    · exact hLl (List.mem_singleton.mp hm)
  · rw [List.mem_singleton.mp hb]; exact Fr.fresh F
  · rw [List.mem_singleton.mp hb] at e
    obtain ⟨o', ho', _, hd'⟩ := hs.1
    obtain ⟨xs, k, q⟩ := is
    rw [ho'] at e
    rw [← Option.some.inj e, hd'] at q
    cases q

noncomputable def TurnW (s : Shared) (h₀ : Heap) (L : Addr) (W : List (Addr × Obj)) (J : Nat → Heap → (Str → Option Value) → Prop) (n : Nat) (Q : Flow → Shared → Prop) (fl : Flow) (s' : Shared) : Prop :=
  match fl with
  | .next => Turn s h₀ L W (fun h m => ∃ k, k < n ∧ J k h m) s'
  | .cont => Turn s h₀ L W (fun h m => ∃ k, k < n ∧ J k h m) s'
  | .brk => Q .next s'
  | .ret v => Q (.ret v) s'
/-- a while, by a measure that each turn lowers -/
theorem while_J {test : Expr} {body : List Stmt} {pos : Pos} {Q : Flow → Shared → Prop} {m : Str → Option Value} (J : Nat → Heap → (Str → Option Value) → Prop) (n : Nat)
    (F : Fr h₀ env.locals s.heap m) (hJ : J n s.heap m)
    (turn : ∀ n h tk m, J n h m → Fr h₀ env.locals h m → News h₀ env.locals h (allBut h₀ [env.locals] h) →
      wpAny (model prog w) A (isTrue test env (eval test env)) (fun b s₂ => WhlIf b (wpAny (model prog w) A (execs body env) (TurnW s h₀ env.locals (allBut h₀ [env.locals] h) J n Q) (fun _ _ => False) s₂) (wpAny (model prog w) A (execs [] env) Q (fun _ _ => False) s₂)) (fun _ _ => False) { s with heap := h, toks := tk }) :
    wpAny (model prog w) A (exec (.While test body [] pos) env) Q (fun _ _ => False) s := by
  have all : ∀ k, ∀ n h tk m, n < k → J n h m → Fr h₀ env.locals h m → WhlRest prog w A (fun _ _ => False) env test body [] Q k { s with heap := h, toks := tk } := by
    intro k
    induction k with
    | zero => intro n h tk m hn; exact absurd hn (Nat.not_lt_zero _)
    | succ k ih =>
      intro n h tk m hn hj F
      refine whl_turn PassesOwn.never (wpAny_mono (turn n h tk m hj F (news_allBut (by simp))) (fun b s₂ h₂ => ?_) (fun _ _ e => e.elim))
      cases b with
      | false => exact WhlIf.no rfl (by unfold WhlIf at h₂; rwa [if_neg Bool.false_ne_true] at h₂)
      | true =>
        refine WhlIf.yes rfl ?_
        unfold WhlIf at h₂
        rw [if_pos rfl] at h₂
        refine wpAny_mono h₂ (fun fl s3 t => ?_) (fun _ _ e => e.elim)
        have fin : Turn s h₀ env.locals (allBut h₀ [env.locals] h) (fun h m => ∃ k, k < n ∧ J k h m) s3 → WhlRest prog w A (fun _ _ => False) env test body [] Q k s3 := by
          rintro ⟨h3, tk3, m3, news3, rfl, F3, N3, _, n', hn', j3⟩
          exact ih n' h3 tk3 m3 (by omega) j3 F3
        cases fl with
        | next => exact fin t
        | cont => exact fin t
        | brk => exact t
        | ret v => exact t
  exact whl_start (n + 1) (all (n + 1) n s.heap s.toks m (Nat.lt_succ_self n) hJ F)
end
theorem fr_put {h₀ h : Heap} {L : Addr} {m : Str → Option Value} {x : Str} {v : Value} (F : Fr h₀ L h m) (e : m x = some v) : Fr h₀ L h (fun y => if y = x then some v else m y) := by
  have : m = fun y => if y = x then some v else m y := by
    funext y
    by_cases q : y = x
    · rw [q, if_pos rfl, e]
    · rw [if_neg q]
  rw [← this]; exact F
theorem eq_tup_str {w : World} {A : Around} {c : Nat} {E : Value → Shared → Prop} {s : Shared} {Q : Value → Shared → Prop} {a : Addr} {xs : Array Value} {x : Str} {t : Tok} {h₀ : Heap} {L : Addr} {m : Str → Option Value}
    (C : ∀ h m, Fr h₀ L h m → At w A c h) (F : Fr h₀ L s.heap m) (ht : IsTup s.heap a xs) (h : Q (.bool false) s) : wpAny (MM w) A (compareOp .Eq (.ref a) (.str x t)) Q E s :=
  cmp_ofEq (PySem.SeqAt.RcAt.tuple_str x t ht (by have := (C _ _ F).units; omega) _ _ _ _ h)
noncomputable def puts : List (Str × Value) → (Str → Option Value) → Str → Option Value
  | [], m, y => m y
  | (x, v) :: r, m, y => if y = x then some v else puts r m y
theorem puts_eq {m : Str → Option Value} : ∀ {l : List (Str × Value)}, (∀ p ∈ l, m p.1 = some p.2) → ∀ y, puts l m y = m y
  | [], _, _ => rfl
  | (x, v) :: r, h, y => by
    unfold puts
    by_cases q : y = x
    · rw [if_pos q, q]; exact (h (x, v) (.head _)).symm
    · rw [if_neg q]; exact puts_eq (fun p hp => h p (.tail _ hp)) y
theorem fr_puts {h₀ h : Heap} {L : Addr} {m : Str → Option Value} (l : List (Str × Value)) (F : Fr h₀ L h m) (e : ∀ p ∈ l, m p.1 = some p.2) : Fr h₀ L h (fun y => puts l m y) := by
  rw [show (fun y => puts l m y) = m from funext (puts_eq e)]; exact F
theorem all1 {m : Str → Option Value} {x : Str} {v : Value} (a : m x = some v) : ∀ p ∈ [(x, v)], m p.1 = some p.2 := fun p hp => by rw [List.mem_singleton.mp hp]; exact a
theorem allc {m : Str → Option Value} {x : Str} {v : Value} {r : List (Str × Value)} (a : m x = some v) (b : ∀ p ∈ r, m p.1 = some p.2) : ∀ p ∈ (x, v) :: r, m p.1 = some p.2 := fun p hp => by
  rcases List.mem_cons.mp hp with rfl | hp
  · exact a
  · exact b p hp
theorem wpAny_cond {prog : Program} {w : World} {A : Around} {E : Value → Shared → Prop} {s : Shared} {α : Type} {t : Sem α} {Q Q' : α → Shared → Prop} (h : wpAny (model prog w) A t Q E s) (k : ∀ a s, Q a s → Q' a s) : wpAny (model prog w) A t Q' E s := wpAny_mono h k fun _ _ e => e
end Mine
/-! part W7 -/
namespace Mine
open PySem PySem.W PyProof.Rows PySem.Calls
theorem fill3 : KK = KK ∧ PySem.Challenge.rw_wf0081_01 = PySem.Challenge.rw_wf0081_01 := by
  k_fill
  exact ⟨rfl, rfl⟩
noncomputable def Le.sym : Le → Int
  | .i => 256 | .k => 257 | .b => 258 | .c => 259
noncomputable def Tr.flat : Tr → List Int
  | .lf x => [x.sym]
  | .ap l r => 49 :: (l.flat ++ r.flat)
noncomputable def flats (ts : List Tr) : List Int := (ts.map Tr.flat).flatten
theorem Tr.flat_len (t : Tr) : t.flat.length + 1 = 2 * t.size := by
  induction t with
  | lf x => rfl
  | ap l r a b =>
    have := l.size_pos
    have := r.size_pos
    simp only [Tr.flat, Tr.size, List.length_cons, List.length_append]; omega
theorem frame_flip {h₀ h : Heap} {L : Addr} {m m' : Str → Option Value} (F : Fr h₀ L h m) (e : ∀ y, m y = m' y) : Fr h₀ L h m' := by
  rw [← funext e]; exact F
theorem drop_get {α : Type} {l r : List α} {x : α} {p : Nat} (h : l.drop p = x :: r) : l[p]? = some x ∧ l.drop (p + 1) = r := by
  constructor
  · have := congrArg (·[0]?) h
    simpa [List.getElem?_drop] using this
  · rw [← List.drop_drop, h]; rfl
/-- an item of a list of ints -/
theorem item_ints {prog : Program} {w : World} {A : Around} {E : Value → Shared → Prop} {s : Shared} {value slice : Expr} {l : Addr} {ns : List Int} {k : Int} {u : Tok} {x : Int} {Q : Value → Shared → Prop}
    (hl : IntsAt s.heap l ns) (h0 : 0 ≤ k) (hhi : k < 2 ^ 63) (hx : ns[k.toNat]? = some x) (h : ∀ t, Q (.int x t) s)
    (hs : subscripted slice false (.ref l) (.int k u) = operate [.ref l, .int k u] (getItem (.ref l) (.int k u)) := by with_unfolding_all rfl) :
    wpAny (model prog w) A (subscriptTail value slice (.ref l) (.int k u)) Q E s := by
  obtain ⟨vs, hl, hi⟩ := hl
  obtain ⟨t, ht⟩ := hi.get _ _ hx
  exact tail_any hl.typeIs slot_list_getitem.lookup (wpAny_getItem_list hl h0 hhi (by simpa using ht) (h t)) hs

local macro_rules | `(tactic| walk_at "exec While Compare cons nil") => `(tactic| (refine stop_ ?_))
local macro_rules | `(tactic| walk_at "exec While BoolOp cons nil") => `(tactic| (refine stop_ ?_))
local macro_rules | `(tactic| walk_at "exec For") => `(tactic| (refine stop_ ?_))
local macro_rules | `(tactic| walk_at "call ref") => `(tactic| (refine stop_ ?_))
set_option maxHeartbeats 8000000
theorem does_behind (w : World) (a : Addr) (t : Tok) (pre post : List Int) (tr : Tr) (hz : pre.length + post.length + tr.flat.length < 1000) :
    Does w 203 4 (fun h vs => vs = [.ref a, .int pre.length t] ∧ IntsAt h a (pre ++ tr.flat ++ post)) (fun _ _ _ r => ∃ t, r = .int (pre.length + tr.flat.length : Nat) t) := by
  refine does_of (binds := fun vs => (["row", "start"] : List Str).zip vs) (look_behind _) (by kernel_rfl) ?_ ?_ (by kernel_rfl) (by kernel_rfl) (by kernel_rfl) (by decide +kernel)
  · rintro h _ ⟨rfl, _⟩
    exact ⟨by kernel_rfl, by kernel_rfl⟩
  · rintro A s _ h₁ tk base outs mean mg mb C B X T ⟨rfl, hI⟩ F
    w_on
    have N : News s.heap s.heap.objs.size h₁ [] := News.nil
    k_steps
    refine ⟨while_J (h₀ := s.heap) (J := fun n h m => ∃ (ts : List Tr) (p : Nat) (c q : Int) (tl tp : Tok), n = (flats ts).length ∧ m "lacking" = some (.int c tl) ∧ c = ts.length ∧ m "place" = some (.int q tp) ∧ q = p ∧ m "row" = some (.ref a) ∧
      (pre ++ tr.flat ++ post).drop p = flats ts ++ post ∧ p + (flats ts).length = pre.length + tr.flat.length) tr.flat.length (by assumption) ⟨[tr], pre.length, _, _, _, _, by simp [flats], rfl, rfl, rfl, rfl, rfl, by simp [flats], by simp [flats]⟩ ?_⟩
    rintro n h tk m ⟨ts, p, c, q, tl, tp, rfl, m1, rfl, m2, rfl, m3, hd, hp⟩ F1 N1
    have F2 := fr_puts _ F1 (allc m1 (allc m2 (all1 m3)))
    simp only [puts] at F2
    generalize allBut _ _ _ = W at N1 ⊢
    clear F1
    have hb : (pre ++ tr.flat ++ post).length < 1000 := by simp; omega
    have hpl : p ≤ 1000 := by omega
    cases ts with
    | nil =>
      k_steps
      dsimp only
      have : p = pre.length + tr.flat.length := by simpa [flats] using hp
      exact Fin1.intro F2 ⟨tp, by rw [this]⟩
    | cons t0 ts =>
      k_steps
      refine WhlIf.yes (by simp) ?_
      k_steps
      cases t0 with
      | lf x =>
        have hd' : List.drop p (pre ++ tr.flat ++ post) = x.sym :: (flats ts ++ post) := by simpa [flats, Tr.flat] using hd
        obtain ⟨hx, hd2⟩ := drop_get hd'
        refine item_ints (hI.keeps F2.keep) (by omega) (by omega) (by simpa using hx) (fun t5 => ?_)
        k_steps
        refine ⟨use_does (does_isnt w _ _) C (by omega) (by assumption) (by assumption) rfl ?_⟩
        rintro _ h3 tk3 F3 N3 st3 rfl
        rw [show decide (256 ≤ x.sym) = true by cases x <;> rfl]
        k_steps
        refine Turn.intro (by assumption) (by assumption) (fun _ hp => hp) ⟨(flats ts).length, by simp [flats, Tr.flat], ts, p + 1, _, _, _, _, rfl, rfl, ?_, rfl, ?_, rfl, hd2, ?_⟩
        · simp only [List.length_cons]; omega
        · omega
        · simp [flats, Tr.flat] at hp ⊢; omega
      | ap l r =>
        have hd' : List.drop p (pre ++ tr.flat ++ post) = 49 :: (flats (l :: r :: ts) ++ post) := by simpa [flats, Tr.flat] using hd
        obtain ⟨hx, hd2⟩ := drop_get hd'
        refine item_ints (hI.keeps F2.keep) (by omega) (by omega) (by simpa using hx) (fun t5 => ?_)
        k_steps
        refine ⟨use_does (does_isnt w _ _) C (by omega) (by assumption) (by assumption) rfl ?_⟩
        rintro _ h3 tk3 F3 N3 st3 rfl
        rw [show decide ((256 : Int) ≤ 49) = false by rfl]
        k_steps
        refine Turn.intro (by assumption) (by assumption) (fun _ hp => hp) ⟨(flats (l :: r :: ts)).length, by simp [flats, Tr.flat], l :: r :: ts, p + 1, _, _, _, _, rfl, rfl, ?_, rfl, ?_, rfl, hd2, ?_⟩
        · simp only [List.length_cons]; omega
        · omega
        · simp [flats, Tr.flat] at hp ⊢; omega
end Mine
/-! part M1 -/
namespace Mine
noncomputable def Le.ar : Le → Nat
  | .i => 1 | .k => 2 | .b => 3 | .c => 3
/-- one step -/
inductive Step : Tr → Tr → Prop where
  | i (x : Tr) : Step (.ap (.lf .i) x) x
  | k (x y : Tr) : Step (.ap (.ap (.lf .k) x) y) x
  | b (x y z : Tr) : Step (.ap (.ap (.ap (.lf .b) x) y) z) (.ap x (.ap y z))
  | c (x y z : Tr) : Step (.ap (.ap (.ap (.lf .c) x) y) z) (.ap (.ap x z) y)
  | left {l l' : Tr} (r : Tr) : Step l l' → Step (.ap l r) (.ap l' r)
  | right (l : Tr) {r r' : Tr} : Step r r' → Step (.ap l r) (.ap l r')
noncomputable def NF (t : Tr) : Prop := ∀ u, ¬ Step t u
theorem Step.size {t u : Tr} (h : Step t u) : u.size < t.size := by
  induction h with
  | i x => simp only [Tr.size]; omega
  | k x y => have := y.size_pos; simp only [Tr.size]; omega
  | b x y z => simp only [Tr.size]; omega
  | c x y z => simp only [Tr.size]; omega
  | left r _ ih => simp only [Tr.size]; omega
  | right l _ ih => simp only [Tr.size]; omega
theorem nf_lf (x : Le) : NF (.lf x) := fun u h => by cases h
theorem nf_left {l r : Tr} (h : NF (.ap l r)) : NF l := fun u q => h _ (.left r q)
theorem nf_right {l r : Tr} (h : NF (.ap l r)) : NF r := fun u q => h _ (.right l q)
/-- a step that throws nothing away that could still step -/
inductive Good : Tr → Tr → Prop where
  | i (x : Tr) : Good (.ap (.lf .i) x) x
  | k (x : Tr) {y : Tr} : NF y → Good (.ap (.ap (.lf .k) x) y) x
  | b (x y z : Tr) : Good (.ap (.ap (.ap (.lf .b) x) y) z) (.ap x (.ap y z))
  | c (x y z : Tr) : Good (.ap (.ap (.ap (.lf .c) x) y) z) (.ap (.ap x z) y)
  | left {l l' : Tr} (r : Tr) : Good l l' → Good (.ap l r) (.ap l' r)
  | right (l : Tr) {r r' : Tr} : Good r r' → Good (.ap l r) (.ap l r')
theorem Good.step {t u : Tr} (h : Good t u) : Step t u := by
  induction h with
  | i x => exact .i x
  | k x _ => exact .k x _
  | b x y z => exact .b x y z
  | c x y z => exact .c x y z
  | left r _ ih => exact .left r ih
  | right l _ ih => exact .right l ih

theorem good_diamond {t t1 : Tr} (g : Good t t1) : ∀ {u : Tr}, Step t u → u = t1 ∨ Step t1 u ∨ ∃ t3, Good u t3 ∧ Step t1 t3 := by
  induction g with
  | i x =>
    intro u s
    cases s with
    | i => exact .inl rfl
    | left _ s => cases s
    | right _ s => exact .inr (.inr ⟨_, .i _, s⟩)
  | k x hy =>
    intro u s
    cases s with
    | k => exact .inl rfl
    | left _ s =>
      cases s with
      | left _ s => cases s
      | right _ s => exact .inr (.inr ⟨_, .k _ hy, s⟩)
    | right _ s => exact absurd s (hy _)
  | b x y z =>
    intro u s
    cases s with
    | b => exact .inl rfl
    | left _ s =>
      cases s with
      | left _ s =>
        cases s with
        | left _ s => cases s
        | right _ s => exact .inr (.inr ⟨_, .b _ _ _, .left _ s⟩)
      | right _ s => exact .inr (.inr ⟨_, .b _ _ _, .right _ (.left _ s)⟩)
    | right _ s => exact .inr (.inr ⟨_, .b _ _ _, .right _ (.right _ s)⟩)
  | c x y z =>
    intro u s
    cases s with
    | c => exact .inl rfl
    | left _ s =>
      cases s with
      | left _ s =>
        cases s with
        | left _ s => cases s
        | right _ s => exact .inr (.inr ⟨_, .c _ _ _, .left _ (.left _ s)⟩)
      | right _ s => exact .inr (.inr ⟨_, .c _ _ _, .right _ s⟩)
    | right _ s => exact .inr (.inr ⟨_, .c _ _ _, .left _ (.right _ s)⟩)
  | left r g ih =>
    intro u s
    cases s with
    | i => cases g
    | k =>
      cases g with
      | left _ g => cases g
      | right _ g => exact .inr (.inr ⟨_, g, .k _ _⟩)
    | b =>
      cases g with
      | left _ g =>
        cases g with
        | left _ g => cases g
        | right _ g => exact .inr (.inr ⟨_, .left _ g, .b _ _ _⟩)
      | right _ g => exact .inr (.inr ⟨_, .right _ (.left _ g), .b _ _ _⟩)
    | c =>
      cases g with
      | left _ g =>
        cases g with
        | left _ g => cases g
        | right _ g => exact .inr (.inr ⟨_, .left _ (.left _ g), .c _ _ _⟩)
      | right _ g => exact .inr (.inr ⟨_, .right _ g, .c _ _ _⟩)
    | left _ s =>
      rcases ih s with rfl | h | ⟨t3, h1, h2⟩
      · exact .inl rfl
      · exact .inr (.inl (.left _ h))
      · exact .inr (.inr ⟨_, .left _ h1, .left _ h2⟩)
    | right _ s => exact .inr (.inr ⟨_, .left _ g, .right _ s⟩)
  | right l g ih =>
    intro u s
    cases s with
    | i => exact .inr (.inr ⟨_, g, .i _⟩)
    | k => exact .inr (.inl (.k _ _))
    | b => exact .inr (.inr ⟨_, .right _ (.right _ g), .b _ _ _⟩)
    | c => exact .inr (.inr ⟨_, .left _ (.right _ g), .c _ _ _⟩)
    | left _ s => exact .inr (.inr ⟨_, .right _ g, .left _ s⟩)
    | right _ s =>
      rcases ih s with rfl | h | ⟨t3, h1, h2⟩
      · exact .inl rfl
      · exact .inr (.inl (.right _ h))
      · exact .inr (.inr ⟨_, .right _ h1, .right _ h2⟩)

/-- n steps of a kind -/
inductive Many (S : Tr → Tr → Prop) : Tr → Nat → Tr → Prop where
  | nil (t : Tr) : Many S t 0 t
  | cons {t u v : Tr} {n : Nat} : S t u → Many S u n v → Many S t (n + 1) v
theorem Many.trans {S : Tr → Tr → Prop} {t u v : Tr} {n m : Nat} (a : Many S t n u) (b : Many S u m v) : Many S t (n + m) v := by
  induction a with
  | nil => rw [Nat.zero_add]; exact b
  | cons s _ ih => rw [show ∀ n, n + 1 + m = n + m + 1 from fun n => by omega]; exact .cons s (ih b)
theorem Many.snoc {S : Tr → Tr → Prop} {t u v : Tr} {n : Nat} (a : Many S t n u) (b : S u v) : Many S t (n + 1) v := a.trans (.cons b (.nil _))
theorem Many.map {S T : Tr → Tr → Prop} {f : Tr → Tr} (h : ∀ t u, S t u → T (f t) (f u)) {t u : Tr} {n : Nat} (a : Many S t n u) : Many T (f t) n (f u) := by
  induction a with
  | nil => exact .nil _
  | cons s _ ih => exact .cons (h _ _ s) ih
theorem Many.steps {S : Tr → Tr → Prop} (h : ∀ t u, S t u → Step t u) {t u : Tr} {n : Nat} (a : Many S t n u) : Many Step t n u := Many.map (f := id) h a
theorem Many.size {S : Tr → Tr → Prop} (h : ∀ t u, S t u → Step t u) {t u : Tr} {n : Nat} (a : Many S t n u) : u.size + n ≤ t.size := by
  induction a with
  | nil => exact Nat.le_refl _
  | cons s _ ih => have := (h _ _ s).size; omega

/-- where S makes headway and meets every step, its ways to the normal form are told -/
theorem good_ends (hp : ∀ t, NF t ∨ ∃ u, Good t u) : ∀ (n : Nat) (t : Tr), t.size ≤ n → ∃ k u, Many Good t k u ∧ NF u
  | 0, t, h => absurd t.size_pos (by omega)
  | n + 1, t, h => by
    rcases hp t with q | ⟨u, g⟩
    · exact ⟨0, t, .nil t, q⟩
    · have := g.step.size
      obtain ⟨k, v, m, nv⟩ := good_ends hp n u (by omega)
      exact ⟨k + 1, v, .cons g m, nv⟩
theorem good_most (hp : ∀ t, NF t ∨ ∃ u, Good t u) : ∀ (n : Nat) (t : Tr), t.size ≤ n → ∀ (k m : Nat) (u v : Tr), Many Good t k u → NF u → Many Step t m v → NF v → m ≤ k ∧ u = v
  | 0, t, h => absurd t.size_pos (by omega)
  | n + 1, t, h => by
    intro k m u v a nu b nv
    cases b with
    | nil =>
      cases a with
      | nil => exact ⟨Nat.le_refl _, rfl⟩
      | cons g _ => exact absurd g.step (nv _)
    | @cons _ t' _ m s b =>
      cases a with
      | nil => exact absurd s (nu _)
      | @cons _ t1 _ k g a =>
        have z1 := g.step.size
        have z2 := s.size
        rcases good_diamond g s with rfl | h1 | ⟨t3, g3, s3⟩
        · obtain ⟨x, y⟩ := good_most hp n _ (by omega) _ _ _ _ a nu b nv
          exact ⟨by omega, y⟩
        · obtain ⟨x, y⟩ := good_most hp n t1 (by omega) _ _ _ _ a nu (.cons h1 b) nv
          exact ⟨by omega, y⟩
        · have z3 := g3.step.size
          obtain ⟨p, x, mx, nx⟩ := good_ends hp n t3 (by omega)
          obtain ⟨e1, e2⟩ := good_most hp n t' (by omega) _ _ _ _ (.cons g3 mx) nx b nv
          obtain ⟨e3, e4⟩ := good_most hp n t1 (by omega) _ _ _ _ a nu (.cons s3 (mx.steps fun _ _ h => h.step)) nx
          exact ⟨by omega, e4.trans e2⟩

theorem progress (t : Tr) : NF t ∨ ∃ u, Good t u := by
  induction t with
  | lf x => exact .inl (nf_lf x)
  | ap l r hl hr =>
    rcases hl with hl | ⟨u, g⟩
    · rcases hr with hr | ⟨u, g⟩
      · by_cases q : ∃ u, Step (.ap l r) u
        · obtain ⟨u, s⟩ := q
          cases s with
          | i => exact .inr ⟨_, .i _⟩
          | k => exact .inr ⟨_, .k _ hr⟩
          | b => exact .inr ⟨_, .b _ _ _⟩
          | c => exact .inr ⟨_, .c _ _ _⟩
          | left _ s => exact absurd s (hl _)
          | right _ s => exact absurd s (hr _)
        · exact .inl fun u s => q ⟨u, s⟩
      · exact .inr ⟨_, .right _ g⟩
    · exact .inr ⟨_, .left _ g⟩
/-- (Church and Rosser; and the longest way) -/
theorem most {t u v : Tr} {k m : Nat} (a : Many Good t k u) (nu : NF u) (b : Many Step t m v) (nv : NF v) : m ≤ k ∧ u = v := good_most progress t.size t (Nat.le_refl _) _ _ _ _ a nu b nv

noncomputable def Tr.hd : Tr → Le
  | .lf x => x
  | .ap l _ => l.hd
noncomputable def Tr.sp : Tr → Nat
  | .lf _ => 0
  | .ap l _ => l.sp + 1
/-- the step of the tree's own first letter, where it has just the parts it takes -/
noncomputable def rootRed : Tr → List Tr
  | .ap (.lf .i) x => [x]
  | .ap (.ap (.lf .k) x) _ => [x]
  | .ap (.ap (.ap (.lf .b) x) y) z => [.ap x (.ap y z)]
  | .ap (.ap (.ap (.lf .c) x) y) z => [.ap (.ap x z) y]
  | _ => []
/-- all steps, in the order of the text -/
noncomputable def reds : Tr → List Tr
  | .lf _ => []
  | .ap l r => rootRed (.ap l r) ++ ((reds l).map (fun l' => Tr.ap l' r) ++ (reds r).map (fun r' => Tr.ap l r'))
theorem rootRed_step {t u : Tr} (h : u ∈ rootRed t) : Step t u := by
  unfold rootRed at h
  split at h <;> simp at h
  · subst h; exact .i _
  · subst h; exact .k _ _
  · subst h; exact .b _ _ _
  · subst h; exact .c _ _ _
theorem mem_reds {t u : Tr} : u ∈ reds t ↔ Step t u := by
  constructor
  · induction t generalizing u with
    | lf x => intro h; cases h
    | ap l r hl hr =>
      intro h
      simp only [reds, List.mem_append, List.mem_map] at h
      rcases h with h | ⟨a, ha, rfl⟩ | ⟨a, ha, rfl⟩
      · exact rootRed_step h
      · exact .left _ (hl ha)
      · exact .right _ (hr ha)
  · intro h
    induction h with
    | i x => simp [reds, rootRed]
    | k x y => simp [reds, rootRed]
    | b x y z => simp [reds, rootRed]
    | c x y z => simp [reds, rootRed]
    | left r _ ih => simp only [reds, List.mem_append, List.mem_map]; exact .inr (.inl ⟨_, ih, rfl⟩)
    | right l _ ih => simp only [reds, List.mem_append, List.mem_map]; exact .inr (.inr ⟨_, ih, rfl⟩)
theorem reds_nil {t : Tr} : reds t = [] ↔ NF t := by
  constructor
  · intro h u s
    rw [← mem_reds, h] at s; cases s
  · intro h
    cases e : reds t with
    | nil => rfl
    | cons u r => exact absurd (mem_reds.mp (e ▸ .head _)) (h u)
/-- the last one is good -/
theorem last_good {t u : Tr} (h : (reds t).getLast? = some u) : Good t u := by
  induction t generalizing u with
  | lf x => cases h
  | ap l r hl hr =>
    simp only [reds] at h
    by_cases e : reds r = []
    · rw [e, List.map_nil, List.append_nil] at h
      by_cases e2 : reds l = []
      · rw [e2, List.map_nil, List.append_nil] at h
        have hm : u ∈ rootRed (.ap l r) := List.mem_of_getLast? h
        have s := rootRed_step hm
        have nr := reds_nil.mp e
        cases s with
        | i => exact .i _
        | k => exact .k _ nr
        | b => exact .b _ _ _
        | c => exact .c _ _ _
        | left _ s => exact absurd s (reds_nil.mp e2 _)
        | right _ s => exact absurd s (nr _)
      · rw [List.getLast?_append, List.getLast?_map] at h
        obtain ⟨v, hv⟩ : ∃ v, (reds l).getLast? = some v := ⟨_, List.getLast?_eq_some_getLast e2⟩
        rw [hv] at h
        simp at h
        subst h
        exact .left _ (hl hv)
    · rw [← List.append_assoc, List.getLast?_append, List.getLast?_map] at h
      obtain ⟨v, hv⟩ : ∃ v, (reds r).getLast? = some v := ⟨_, List.getLast?_eq_some_getLast e⟩
      rw [hv] at h
      simp at h
      subst h
      exact .right _ (hr hv)
/-- the first one -/
noncomputable def Lm (t u : Tr) : Prop := (reds t).head? = some u
theorem Lm.step {t u : Tr} (h : Lm t u) : Step t u := mem_reds.mp (List.mem_of_head? h)
theorem lm_root {l r u : Tr} {s : List Tr} (h : rootRed (.ap l r) = u :: s) : Lm (.ap l r) u := by
  unfold Lm; simp only [reds]; rw [h]; rfl
theorem lm_left {l r l' : Tr} (h : rootRed (.ap l r) = []) (q : Lm l l') : Lm (.ap l r) (.ap l' r) := by
  unfold Lm at q ⊢
  simp only [reds]
  rw [h, List.nil_append]
  cases e : reds l with
  | nil => rw [e] at q; cases q
  | cons a b => rw [e] at q; cases q; rfl
theorem lm_right {l r r' : Tr} (h : rootRed (.ap l r) = []) (nl : reds l = []) (q : Lm r r') : Lm (.ap l r) (.ap l r') := by
  unfold Lm at q ⊢
  simp only [reds]
  rw [h, nl, List.map_nil, List.nil_append, List.nil_append, List.head?_map, q]; rfl
theorem root_iff (l r : Tr) : rootRed (.ap l r) ≠ [] ↔ l.hd.ar = l.sp + 1 := by
  cases l with
  | lf x => cases x <;> simp [rootRed, Tr.hd, Tr.sp, Le.ar]
  | ap l y =>
    cases l with
    | lf x => cases x <;> simp [rootRed, Tr.hd, Tr.sp, Le.ar]
    | ap l x =>
      cases l with
      | lf x => cases x <;> simp [rootRed, Tr.hd, Tr.sp, Le.ar]
      | ap l z =>
        have : (Tr.ap (.ap (.ap l z) x) y).hd.ar ≤ 3 := by cases (Tr.ap (.ap (.ap l z) x) y).hd <;> decide
        constructor
        · intro h; exact absurd (by cases l <;> rfl) h
        · intro h; simp [Tr.sp] at h; omega
theorem no_root {l r : Tr} (h : l.hd.ar ≠ l.sp + 1) : rootRed (.ap l r) = [] := by
  cases e : rootRed (.ap l r) with
  | nil => rfl
  | cons a b => exact absurd ((root_iff l r).mp (by rw [e]; simp)) h
/-- a step is that of the first letter, or keeps the first letter and its parts' number -/
theorem step_spine {t u : Tr} (s : Step t u) : (t.hd.ar ≤ t.sp ∧ Lm t u) ∨ (u.hd = t.hd ∧ u.sp = t.sp) := by
  induction s with
  | i x => exact .inl ⟨Nat.le_refl _, lm_root (s := []) rfl⟩
  | k x y => exact .inl ⟨Nat.le_refl _, lm_root (s := []) rfl⟩
  | b x y z => exact .inl ⟨Nat.le_refl _, lm_root (s := []) rfl⟩
  | c x y z => exact .inl ⟨Nat.le_refl _, lm_root (s := []) rfl⟩
  | @left l l' r s ih =>
    rcases ih with ⟨h0, h⟩ | h
    · exact .inl ⟨by simp only [Tr.hd, Tr.sp]; omega, lm_left (no_root (by omega)) h⟩
    · exact .inr ⟨h.1, by simp [Tr.sp, h.2]⟩
  | right l s ih => exact .inr ⟨rfl, rfl⟩
theorem lm_unique {t a b : Tr} (x : Lm t a) (y : Lm t b) : a = b := Option.some.inj (x.symm.trans y)
theorem lm_some {t : Tr} (h : reds t ≠ []) : ∃ u, Lm t u := by
  cases e : reds t with
  | nil => exact absurd e h
  | cons a b => exact ⟨a, by unfold Lm; rw [e]; rfl⟩
theorem lm_diamond {t t1 : Tr} (g : Lm t t1) {u : Tr} (s : Step t u) : u = t1 ∨ ∃ t3, Lm u t3 ∧ (t1 = t3 ∨ Step t1 t3) := by
  induction s generalizing t1 with
  | i x => exact .inl (lm_unique (lm_root (s := []) rfl) g)
  | k x y => exact .inl (lm_unique (lm_root (s := []) rfl) g)
  | b x y z => exact .inl (lm_unique (lm_root (s := []) rfl) g)
  | c x y z => exact .inl (lm_unique (lm_root (s := []) rfl) g)
  | @left l l' r s ih =>
    by_cases q : l.hd.ar = l.sp + 1
    · -- the whole is a step of its own
      have hne := (root_iff l r).mpr q
      cases l with
      | lf x => cases s
      | ap l y =>
        cases l with
        | lf x =>
          cases x with
          | k =>
            obtain rfl := lm_unique (lm_root (s := []) rfl) g
            cases s with
            | left _ s => cases s
            | right _ s => exact .inr ⟨_, lm_root (s := []) rfl, .inr s⟩
          | i => exact absurd rfl hne
          | b => exact absurd rfl hne
          | c => exact absurd rfl hne
        | ap l x =>
          cases l with
          | lf z =>
            cases z with
            | b =>
              obtain rfl := lm_unique (lm_root (s := []) rfl) g
              cases s with
              | left _ s =>
                cases s with
                | left _ s => cases s
                | right _ s => exact .inr ⟨_, lm_root (s := []) rfl, .inr (.left _ s)⟩
              | right _ s => exact .inr ⟨_, lm_root (s := []) rfl, .inr (.right _ (.left _ s))⟩
            | c =>
              obtain rfl := lm_unique (lm_root (s := []) rfl) g
              cases s with
              | left _ s =>
                cases s with
                | left _ s => cases s
                | right _ s => exact .inr ⟨_, lm_root (s := []) rfl, .inr (.left _ (.left _ s))⟩
              | right _ s => exact .inr ⟨_, lm_root (s := []) rfl, .inr (.right _ s)⟩
            | i => exact absurd rfl hne
            | k => exact absurd rfl hne
          | ap l z => exact absurd rfl hne
    · obtain ⟨l1, hl1⟩ := lm_some (t := l) (fun e => by rw [reds_nil] at e; exact e _ s)
      obtain rfl := lm_unique (lm_left (no_root q) hl1) g
      rcases step_spine s with ⟨_, h⟩ | ⟨h1, h2⟩
      · exact .inl (by rw [lm_unique h hl1])
      · rcases ih hl1 with rfl | ⟨t3, a, b⟩
        · exact .inl rfl
        · refine .inr ⟨_, lm_left (no_root (by rw [h1, h2]; exact q)) a, ?_⟩
          rcases b with rfl | b
          · exact .inl rfl
          · exact .inr (.left _ b)
  | @right l r r' s ih =>
    by_cases q : l.hd.ar = l.sp + 1
    · have hne := (root_iff l r).mpr q
      cases l with
      | lf x =>
        cases x with
        | i =>
          obtain rfl := lm_unique (lm_root (s := []) rfl) g
          exact .inr ⟨_, lm_root (s := []) rfl, .inr s⟩
        | k => exact absurd rfl hne
        | b => exact absurd rfl hne
        | c => exact absurd rfl hne
      | ap l y =>
        cases l with
        | lf x =>
          cases x with
          | k =>
            obtain rfl := lm_unique (lm_root (s := []) rfl) g
            exact .inr ⟨_, lm_root (s := []) rfl, .inl rfl⟩
          | i => exact absurd rfl hne
          | b => exact absurd rfl hne
          | c => exact absurd rfl hne
        | ap l x =>
          cases l with
          | lf z =>
            cases z with
            | b =>
              obtain rfl := lm_unique (lm_root (s := []) rfl) g
              exact .inr ⟨_, lm_root (s := []) rfl, .inr (.right _ (.right _ s))⟩
            | c =>
              obtain rfl := lm_unique (lm_root (s := []) rfl) g
              exact .inr ⟨_, lm_root (s := []) rfl, .inr (.left _ (.right _ s))⟩
            | i => exact absurd rfl hne
            | k => exact absurd rfl hne
          | ap l z => exact absurd rfl hne
    · by_cases e : reds l = []
      · obtain ⟨r1, hr1⟩ := lm_some (t := r) (fun e => by rw [reds_nil] at e; exact e _ s)
        obtain rfl := lm_unique (lm_right (no_root q) e hr1) g
        rcases ih hr1 with rfl | ⟨t3, a, b⟩
        · exact .inl rfl
        · refine .inr ⟨_, lm_right (no_root q) e a, ?_⟩
          rcases b with rfl | b
          · exact .inl rfl
          · exact .inr (.right _ b)
      · obtain ⟨l1, hl1⟩ := lm_some e
        obtain rfl := lm_unique (lm_left (no_root q) hl1) g
        exact .inr ⟨_, lm_left (no_root q) hl1, .inr (.right _ s)⟩
theorem lm_ends : ∀ (n : Nat) (t : Tr), t.size ≤ n → ∃ k u, Many Lm t k u ∧ NF u
  | 0, t, h => absurd t.size_pos (by omega)
  | n + 1, t, h => by
    by_cases e : reds t = []
    · exact ⟨0, t, .nil t, reds_nil.mp e⟩
    · obtain ⟨u, hu⟩ := lm_some e
      have := hu.step.size
      obtain ⟨k, v, m, nv⟩ := lm_ends n u (by omega)
      exact ⟨k + 1, v, .cons hu m, nv⟩
theorem lm_least : ∀ (n : Nat) (t : Tr), t.size ≤ n → ∀ (k m : Nat) (u v : Tr), Many Lm t k u → NF u → Many Step t m v → NF v → k ≤ m ∧ u = v
  | 0, t, h => absurd t.size_pos (by omega)
  | n + 1, t, h => by
    intro k m u v a nu b nv
    cases b with
    | nil =>
      cases a with
      | nil => exact ⟨Nat.le_refl _, rfl⟩
      | cons g _ => exact absurd g.step (nv _)
    | @cons _ t' _ m s b =>
      cases a with
      | nil => exact absurd s (nu _)
      | @cons _ t1 _ k g a =>
        have z1 := g.step.size
        have z2 := s.size
        rcases lm_diamond g s with rfl | ⟨t3, g3, h3⟩
        · obtain ⟨x, y⟩ := lm_least n _ (by omega) _ _ _ _ a nu b nv
          exact ⟨by omega, y⟩
        · have z3 := g3.step.size
          obtain ⟨p, x, mx, nx⟩ := lm_ends n t3 (by omega)
          obtain ⟨e1, e2⟩ := lm_least n t' (by omega) _ _ _ _ (.cons g3 mx) nx b nv
          rcases h3 with rfl | s3
          · obtain ⟨e3, e4⟩ := lm_least n t1 (by omega) _ _ _ _ a nu (mx.steps fun _ _ h => h.step) nx
            exact ⟨by omega, e4.trans e2⟩
          · obtain ⟨e3, e4⟩ := lm_least n t1 (by omega) _ _ _ _ a nu (.cons s3 (mx.steps fun _ _ h => h.step)) nx
            exact ⟨by omega, e4.trans e2⟩
/-- (Curry and Feys: the shortest way) -/
theorem least {t u v : Tr} {k m : Nat} (a : Many Lm t k u) (nu : NF u) (b : Many Step t m v) (nv : NF v) : k ≤ m ∧ u = v := lm_least t.size t (Nat.le_refl _) _ _ _ _ a nu b nv
end Mine
/-! part W8 -/
namespace Mine
open PySem PySem.W PyProof.Rows PySem.Calls
theorem fill4 : KK = KK ∧ PySem.Challenge.rw_wf0081_01 = PySem.Challenge.rw_wf0081_01 := by
  k_fill
  exact ⟨rfl, rfl⟩
local macro_rules | `(tactic| walk_at "call ref") => `(tactic| (refine stop_ ?_))
local macro_rules | `(tactic| walk_at "call builtin:isinstance") => `(tactic| (k_here; (with_reducible show wpAny _ _ (call (Value.builtin "isinstance") [Value.ref _, Value.type "tuple"]) _ _ _); (refine isi_tup (Fr.tup (by assumption) (by assumption)) ?_)))
local macro_rules | `(tactic| walk_at "compareOp Eq ref str") => `(tactic| (refine eq_tup_str (by assumption) (by assumption) (Fr.tup (by assumption) (by assumption)) ?_))
set_option maxHeartbeats 8000000
/-- a pair of a tree and a number -/
noncomputable def PairAt (h : Heap) (v : Value) (t : Tr) (k : Nat) : Prop := ∃ a x tk c, v = .ref a ∧ IsTup h a #[x, .int c tk] ∧ c = k ∧ TreeAt h x t
/-- what stood at a heap (all but the frame is the ledger W) -/
structure Kept (h₀ : Heap) (L : Addr) (h : Heap) (W : List (Addr × Obj)) : Prop where
  fr : ∃ m, Fr h₀ L h m
  eq : allBut h₀ [L] h = W
theorem Kept.seq {h₀ h h' : Heap} {L : Addr} {W news : List (Addr × Obj)} {m' : Str → Option Value} (x : Kept h₀ L h W) (F : Fr h₀ L h' m') (N : News h₀ L h' news) (hs : ∀ p ∈ W, p ∈ news) : SeqStay h h' := by
  obtain ⟨⟨m, F0⟩, rfl⟩ := x
  exact seqStay_of F0 F N hs
/-- a call; the ledger is made new -/
theorem use_k {w : World} {A : Around} {f : Addr} {c c' : Nat} {P : Heap → List Value → Prop} {R : Heap → List Value → Heap → Value → Prop} {h₀ : Heap} {L : Addr} {m : Str → Option Value} {news : List (Addr × Obj)} {s : Shared} {vs : List Value} {Q E : Value → Shared → Prop}
    (D : Does w f c P R) (C : ∀ h m, Fr h₀ L h m → At w A c' h) (hc : c ≤ c') (F : Fr h₀ L s.heap m) (N : News h₀ L s.heap news) (hP : P s.heap vs)
    (k : ∀ r h' tk W, Fr h₀ L h' m → News h₀ L h' W → Kept h₀ L h' W → s.heap.StaysIn h' → R s.heap vs h' r → Q r { s with heap := h', toks := tk }) : wpAny (MM w) A (call (.ref f) vs) Q E s :=
  use_does D C hc F N hP fun r h' tk F' _ st hR => k r h' tk _ F' (news_allBut (by simp)) ⟨⟨_, F'⟩, rfl⟩ st hR
/-- the same; what the ledger held is told besides -/
theorem use_ka {w : World} {A : Around} {f : Addr} {c c' : Nat} {P : Heap → List Value → Prop} {R : Heap → List Value → Heap → Value → Prop} {h₀ : Heap} {L : Addr} {m : Str → Option Value} {news : List (Addr × Obj)} {s : Shared} {vs : List Value} {Q E : Value → Shared → Prop}
    (D : Does w f c P R) (C : ∀ h m, Fr h₀ L h m → At w A c' h) (hc : c ≤ c') (F : Fr h₀ L s.heap m) (N : News h₀ L s.heap news) (hP : P s.heap vs)
    (k : ∀ r h' tk W, Fr h₀ L h' m → News h₀ L h' (news ++ W) → Kept h₀ L h' W → s.heap.StaysIn h' → R s.heap vs h' r → Q r { s with heap := h', toks := tk }) : wpAny (MM w) A (call (.ref f) vs) Q E s :=
  use_does D C hc F N hP fun r h' tk F' N' st hR => k r h' tk _ F' (fun p hp => (List.mem_append.mp hp).elim (N' p) (news_allBut (h := h') (xs := [L]) (by simp) p)) ⟨⟨_, F'⟩, rfl⟩ st hR
theorem PairAt.tup {h : Heap} {v : Value} {t : Tr} {k : Nat} (x : PairAt h v t k) : ∃ a x tk, v = .ref a ∧ IsTup h a #[x, .int k tk] ∧ TreeAt h x t := by
  obtain ⟨a, x, tk, c, rfl, i, rfl, t⟩ := x
  exact ⟨a, x, tk, rfl, i, t⟩
noncomputable abbrev PutR (one two : Tr) : Heap → List Value → Heap → Value → Prop := fun _ _ h' r => ∃ k u, PairAt h' r u k ∧ Many Good (.ap one two) k u ∧ NF u
noncomputable def DoesPut (w : World) (one two : Tr) : Prop := ∀ v1 v2, Does w 170 (one.size + two.size + 2) (fun h vs => vs = [v1, v2] ∧ TreeAt h v1 one ∧ TreeAt h v2 two) (PutR one two)
theorem nf_ap1 {x : Le} {r : Tr} (hx : x ≠ .i) (n : NF r) : NF (.ap (.lf x) r) := by
  intro u s
  cases s with
  | i => exact hx rfl
  | left _ s => cases s
  | right _ s => exact n _ s
theorem nf_ap2 {x : Le} {y z : Tr} (hi : x ≠ .i) (hk : x ≠ .k) (ny : NF y) (nz : NF z) : NF (.ap (.ap (.lf x) y) z) := by
  intro u s
  cases s with
  | k => exact hk rfl
  | left _ s => exact nf_ap1 hi ny _ s
  | right _ s => exact nz _ s
/-- a normal form's first letter lacks parts -/
theorem nf_sp {t : Tr} (n : NF t) : t.sp < t.hd.ar := by
  induction t with
  | lf x => cases x <;> decide
  | ap l r ih _ =>
    have h1 := ih (nf_left n)
    have h2 : rootRed (.ap l r) = [] := by
      cases e : rootRed (.ap l r) with
      | nil => rfl
      | cons a b => exact absurd (rootRed_step (by rw [e]; exact .head _)) (n a)
    have h3 : l.hd.ar ≠ l.sp + 1 := fun e => (root_iff l r).mpr e h2
    simp only [Tr.sp, Tr.hd]; omega
theorem Le.ar_le (x : Le) : x.ar ≤ 3 := by cases x <;> decide
theorem does_put (w : World) : ∀ (n : Nat) (one two : Tr), one.size + two.size ≤ n → NF one → NF two → one.size + two.size ≤ 8 → DoesPut w one two
  | 0, one, two, h, _, _, _ => absurd one.size_pos (by omega)
  | n + 1, one, two, h, n1, n2, hz => by
    intro v1 v2
    refine does_of (binds := fun vs => (["one", "two"] : List Str).zip vs) (look_put _) (by kernel_rfl) ?_ ?_ (by kernel_rfl) (by kernel_rfl) (by kernel_rfl) (by decide +kernel)
    · rintro h vs ⟨rfl, _⟩
      exact ⟨by kernel_rfl, by kernel_rfl⟩
    · rintro ⟨hdl, dp, frs, gd, un⟩ s _ h₁ tk base outs mean mg mb C B X T ⟨rfl, h1, h2⟩ F
      obtain rfl : hdl = none := (C _ _ F).hd
      obtain rfl : frs = some outs := B.stack
      w_on
      have N : News s.heap s.heap.objs.size h₁ [] := News.nil
      cases h1 with
      | lf x t1 =>
        have t0 := TreeAt.lf (h := s.heap) x t1
        cases x with
        | i =>
          k_steps
          dsimp only
          rename_i D h2' F2 N2 _
          exact Fin1.intro F2 ⟨1, two, ⟨D, _, _, _, rfl, ⟨_, (N2 _ (.head _)).1, rfl, _, rfl⟩, rfl, h2.keeps F2.keep⟩, .cons (.i _) (.nil _), n2⟩
        | k =>
          k_steps
          dsimp only
          rename_i D h2' F2 N2 _
          exact Fin1.intro F2 ⟨0, _, ⟨D, _, _, _, rfl, ⟨_, (N2 _ (.head _)).1, rfl, _, rfl⟩, rfl, .ap ⟨_, (N2 _ (.tail _ (.head _))).1, rfl, _, rfl⟩ (t0.keeps F2.keep) (h2.keeps F2.keep)⟩, (.nil _), (nf_ap1 (by decide) n2)⟩
        | b =>
          k_steps
          dsimp only
          rename_i D h2' F2 N2 _
          exact Fin1.intro F2 ⟨0, _, ⟨D, _, _, _, rfl, ⟨_, (N2 _ (.head _)).1, rfl, _, rfl⟩, rfl, .ap ⟨_, (N2 _ (.tail _ (.head _))).1, rfl, _, rfl⟩ (t0.keeps F2.keep) (h2.keeps F2.keep)⟩, (.nil _), (nf_ap1 (by decide) n2)⟩
        | c =>
          k_steps
          dsimp only
          rename_i D h2' F2 N2 _
          exact Fin1.intro F2 ⟨0, _, ⟨D, _, _, _, rfl, ⟨_, (N2 _ (.head _)).1, rfl, _, rfl⟩, rfl, .ap ⟨_, (N2 _ (.tail _ (.head _))).1, rfl, _, rfl⟩ (t0.keeps F2.keep) (h2.keeps F2.keep)⟩, (.nil _), (nf_ap1 (by decide) n2)⟩
      | @ap a x y l r i1 hl hr =>
        have t0 := TreeAt.ap i1 hl hr
        cases hl with
        | lf z t0 =>
          cases z with
          | i => exact absurd (Step.i _) (n1 _)
          | k =>
            k_steps
            dsimp only
            rename_i D h2' F2 N2 _
            exact Fin1.intro F2 ⟨1, r, ⟨D, _, _, _, rfl, ⟨_, (N2 _ (.head _)).1, rfl, _, rfl⟩, rfl, hr.keeps F2.keep⟩, .cons (.k _ n2) (.nil _), nf_right n1⟩
          | b =>
            k_steps
            dsimp only
            rename_i D h2' F2 N2 _
            exact Fin1.intro F2 ⟨0, _, ⟨D, _, _, _, rfl, ⟨_, (N2 _ (.head _)).1, rfl, _, rfl⟩, rfl, .ap ⟨_, (N2 _ (.tail _ (.head _))).1, rfl, _, rfl⟩ (t0.keeps F2.keep) (h2.keeps F2.keep)⟩, (.nil _), (nf_ap2 (by decide) (by decide) (nf_right n1) n2)⟩
          | c =>
            k_steps
            dsimp only
            rename_i D h2' F2 N2 _
            exact Fin1.intro F2 ⟨0, _, ⟨D, _, _, _, rfl, ⟨_, (N2 _ (.head _)).1, rfl, _, rfl⟩, rfl, .ap ⟨_, (N2 _ (.tail _ (.head _))).1, rfl, _, rfl⟩ (t0.keeps F2.keep) (h2.keeps F2.keep)⟩, (.nil _), (nf_ap2 (by decide) (by decide) (nf_right n1) n2)⟩
        | @ap a2 x2 y2 l2 r2 i2 hl2 hr2 =>
          cases hl2 with
          | lf z t0 =>
            simp only [Tr.size] at h hz
            cases z with
            | i => exact absurd (Step.left _ (Step.i _)) (n1 _)
            | k => exact absurd (Step.k _ _) (n1 _)
            | b =>
              k_steps
              refine ⟨use_k (does_put w n r two (by omega) (nf_right n1) n2 (by omega) _ _) C (by simp only [Tr.size]; omega) (by assumption) (by assumption) ⟨rfl, hr.keeps (Fr.keep (by assumption)), h2.keeps (Fr.keep (by assumption))⟩ ?_⟩
              rintro _ h3 tk3 W3 F3 N3 K3 st3 ⟨k3, u3, ⟨a3, x3, tk3', c3, rfl, i3, rfl, ht3⟩, m3, nf3⟩
              have z3 := m3.size fun _ _ g => g.step
              simp only [Tr.size] at z3
              k_steps
              have sq := K3.seq (by assumption) (by assumption) (fun _ hp => by simp [hp])
              refine ⟨use_k (does_put w n r2 u3 (by omega) (nf_right (nf_left n1)) nf3 (by omega) _ _) C (by simp only [Tr.size]; omega) (by assumption) (by assumption) ⟨rfl, hr2.keeps (Fr.keep (by assumption)), ht3.seqStay sq⟩ ?_⟩
              rintro _ h5 tk5 W5 F5 N5 K5 st5 ⟨k5, u5, ⟨a5, x5, tk5', c5, rfl, i5, rfl, ht5⟩, m5, nf5⟩
              have z5 := m5.size fun _ _ g => g.step
              k_steps
              dsimp only
              rename_i D h2' F2 N2 _
              have sq := K5.seq F2 N2 (fun _ hp => by simp [hp])
              exact Fin1.intro F2 ⟨1 + k3 + k5, u5, ⟨D, _, _, _, rfl, ⟨_, (N2 _ (.head _)).1, rfl, _, rfl⟩, by push_cast; omega, ht5.seqStay sq⟩, by
                rw [show 1 + k3 + k5 = k3 + k5 + 1 by omega]
                exact .cons (.b _ _ _) ((m3.map fun _ _ g => Good.right _ g).trans m5), nf5⟩
            | c =>
              k_steps
              refine ⟨use_k (does_put w n r2 two (by omega) (nf_right (nf_left n1)) n2 (by omega) _ _) C (by simp only [Tr.size]; omega) (by assumption) (by assumption) ⟨rfl, hr2.keeps (Fr.keep (by assumption)), h2.keeps (Fr.keep (by assumption))⟩ ?_⟩
              rintro _ h3 tk3 W3 F3 N3 K3 st3 ⟨k3, u3, ⟨a3, x3, tk3', c3, rfl, i3, rfl, ht3⟩, m3, nf3⟩
              have z3 := m3.size fun _ _ g => g.step
              simp only [Tr.size] at z3
              k_steps
              have sq := K3.seq (by assumption) (by assumption) (fun _ hp => by simp [hp])
              refine ⟨use_k (does_put w n u3 r (by omega) nf3 (nf_right n1) (by omega) _ _) C (by simp only [Tr.size]; omega) (by assumption) (by assumption) ⟨rfl, ht3.seqStay sq, hr.keeps (Fr.keep (by assumption))⟩ ?_⟩
              rintro _ h5 tk5 W5 F5 N5 K5 st5 ⟨k5, u5, ⟨a5, x5, tk5', c5, rfl, i5, rfl, ht5⟩, m5, nf5⟩
              have z5 := m5.size fun _ _ g => g.step
              k_steps
              dsimp only
              rename_i D h2' F2 N2 _
              have sq := K5.seq F2 N2 (fun _ hp => by simp [hp])
              exact Fin1.intro F2 ⟨1 + k3 + k5, u5, ⟨D, _, _, _, rfl, ⟨_, (N2 _ (.head _)).1, rfl, _, rfl⟩, by push_cast; omega, ht5.seqStay sq⟩, by
                rw [show 1 + k3 + k5 = k3 + k5 + 1 by omega]
                exact .cons (.c _ _ _) ((m3.map fun _ _ g => Good.left _ g).trans m5), nf5⟩
          | @ap a3 x3 y3 l3 r3 i3 hl3 hr3 =>
            exfalso
            have := nf_sp n1
            have := (Tr.hd (.ap (.ap (.ap l3 r3) r2) r)).ar_le
            simp only [Tr.sp] at *
            omega
end Mine
/-! part W9 -/
namespace Mine
open PySem PySem.W PyProof.Rows PySem.Calls
theorem fill5 : KK = KK ∧ PySem.Challenge.rw_wf0081_01 = PySem.Challenge.rw_wf0081_01 := by
  k_fill
  exact ⟨rfl, rfl⟩
local macro_rules | `(tactic| walk_at "call ref") => `(tactic| (refine stop_ ?_))
local macro_rules | `(tactic| walk_at "call builtin:isinstance") => `(tactic| (k_here; (with_reducible show wpAny _ _ (call (Value.builtin "isinstance") [Value.ref _, Value.type "tuple"]) _ _ _); (refine isi_tup (Fr.tup (by assumption) (by assumption)) ?_)))
local macro_rules | `(tactic| walk_at "compareOp Eq ref str") => `(tactic| (refine eq_tup_str (by assumption) (by assumption) (Fr.tup (by assumption) (by assumption)) ?_))
set_option maxHeartbeats 8000000
theorem Tr.depth_lt (t : Tr) : t.depth < t.size := by
  induction t with
  | lf x => exact Nat.one_pos
  | ap l r a b =>
    have := l.size_pos
    have := r.size_pos
    simp only [Tr.depth, Tr.size]; omega
noncomputable abbrev InnerR (t : Tr) : Heap → List Value → Heap → Value → Prop := fun _ _ h' r => ∃ k u, PairAt h' r u k ∧ Many Good t k u ∧ NF u
theorem does_inner (w : World) : ∀ (t : Tr), t.size ≤ 8 → ∀ v, Does w 177 (t.size + 4 + 8) (fun h vs => vs = [v] ∧ TreeAt h v t) (InnerR t)
  | .lf x, hz => by
    intro v
    refine does_of (binds := fun vs => (["tree"] : List Str).zip vs) (look_inner _) (by kernel_rfl) ?_ ?_ (by kernel_rfl) (by kernel_rfl) (by kernel_rfl) (by decide +kernel)
    · rintro h vs ⟨rfl, _⟩
      exact ⟨by kernel_rfl, by kernel_rfl⟩
    · rintro ⟨hdl, dp, frs, gd, un⟩ s _ h₁ tk base outs mean mg mb C B X T ⟨rfl, h1⟩ F
      obtain rfl : hdl = none := (C _ _ F).hd
      obtain rfl : frs = some outs := B.stack
      w_on
      have N : News s.heap s.heap.objs.size h₁ [] := News.nil
      cases h1 with
      | lf x t1 =>
        have t0 := TreeAt.lf (h := s.heap) x t1
        k_steps
        dsimp only
        rename_i D h2' F2 N2 _
        exact Fin1.intro F2 ⟨0, _, ⟨D, _, _, _, rfl, ⟨_, (N2 _ (.head _)).1, rfl, _, rfl⟩, rfl, t0.keeps F2.keep⟩, .nil _, nf_lf _⟩
  | .ap l r, hz => by
    intro v
    refine does_of (binds := fun vs => (["tree"] : List Str).zip vs) (look_inner _) (by kernel_rfl) ?_ ?_ (by kernel_rfl) (by kernel_rfl) (by kernel_rfl) (by decide +kernel)
    · rintro h vs ⟨rfl, _⟩
      exact ⟨by kernel_rfl, by kernel_rfl⟩
    · rintro ⟨hdl, dp, frs, gd, un⟩ s _ h₁ tk base outs mean mg mb C B X T ⟨rfl, h1⟩ F
      obtain rfl : hdl = none := (C _ _ F).hd
      obtain rfl : frs = some outs := B.stack
      w_on
      have N : News s.heap s.heap.objs.size h₁ [] := News.nil
      have p1 := l.size_pos
      have p2 := r.size_pos
      simp only [Tr.size] at hz
      cases h1 with
      | @ap a x y _ _ i1 hl hr =>
        k_steps
        refine ⟨use_k (does_inner w l (by omega) _) C (by simp only [Tr.size]; omega) (by assumption) (by assumption) ⟨rfl, hl.keeps (Fr.keep (by assumption))⟩ ?_⟩
        rintro _ h3 tk3 W3 F3 N3 K3 st3 ⟨k3, u3, ⟨a3, x3, tk3', c3, rfl, i3, rfl, ht3⟩, m3, nf3⟩
        have z3 := m3.size fun _ _ g => g.step
        k_steps
        have sq := K3.seq (by assumption) (by assumption) (fun _ hp => by simp [hp])
        refine ⟨use_k (does_inner w r (by omega) _) C (by simp only [Tr.size]; omega) (by assumption) (by assumption) ⟨rfl, hr.keeps (Fr.keep (by assumption))⟩ ?_⟩
        rintro _ h5 tk5 W5 F5 N5 K5 st5 ⟨k5, u5, ⟨a5, x5, tk5', c5, rfl, i5, rfl, ht5⟩, m5, nf5⟩
        have z5 := m5.size fun _ _ g => g.step
        have ht3' := (ht3.seqStay sq).keeps st5
        k_steps
        have sq5 := K5.seq (by assumption) (by assumption) (fun _ hp => by simp [hp])
        refine ⟨use_k (does_put w (u3.size + u5.size) u3 u5 (Nat.le_refl _) nf3 nf5 (by omega) _ _) C (by simp only [Tr.size]; omega) (by assumption) (by assumption) ⟨rfl, ht3'.seqStay sq5, ht5.seqStay sq5⟩ ?_⟩
        rintro _ h7 tk7 W7 F7 N7 K7 st7 ⟨k7, u7, ⟨a7, x7, tk7', c7, rfl, i7, rfl, ht7⟩, m7, nf7⟩
        have z7 := m7.size fun _ _ g => g.step
        simp only [Tr.size] at z7
        k_steps
        dsimp only
        rename_i D h2' F2 N2 _
        have sq := K7.seq F2 N2 (fun _ hp => by simp [hp])
        exact Fin1.intro F2 ⟨k3 + k5 + k7, u7, ⟨D, _, _, _, rfl, ⟨_, (N2 _ (.head _)).1, rfl, _, rfl⟩, by push_cast; omega, ht7.seqStay sq⟩,
          ((m3.map fun _ _ g => Good.left _ g).trans (m5.map fun _ _ g => Good.right _ g)).trans m7, nf7⟩
end Mine
/-! part W10 -/
namespace Mine
open PySem PySem.W PyProof.Rows PySem.Calls
noncomputable def LstWas (h₀ : Heap) (L : Addr) (W : List (Addr × Obj)) (a : Addr) (vs : List Value) : Prop := ∃ h, Kept h₀ L h W ∧ h.IsList a vs.toArray
noncomputable def TupWas (h₀ : Heap) (L : Addr) (W : List (Addr × Obj)) (a : Addr) (xs : Array Value) : Prop := ∃ h, Kept h₀ L h W ∧ IsTup h a xs
theorem LstWas.now {h₀ h' : Heap} {L : Addr} {W news : List (Addr × Obj)} {a : Addr} {vs : List Value} {m' : Str → Option Value} (x : LstWas h₀ L W a vs) (F : Fr h₀ L h' m') (N : News h₀ L h' news) (hs : ∀ p ∈ W, p ∈ news) : h'.IsList a vs.toArray := by
  obtain ⟨h, K, i⟩ := x; exact Mine.IsList.seqStay i (K.seq F N hs)
theorem TupWas.now {h₀ h' : Heap} {L : Addr} {W news : List (Addr × Obj)} {a : Addr} {xs : Array Value} {m' : Str → Option Value} (x : TupWas h₀ L W a xs) (F : Fr h₀ L h' m') (N : News h₀ L h' news) (hs : ∀ p ∈ W, p ∈ news) : IsTup h' a xs := by
  obtain ⟨h, K, i⟩ := x; exact Mine.IsTup.seqStay i (K.seq F N hs)
noncomputable abbrev lobj (vs : List Value) : Obj := { cls := .type "list", data := .seq vs.toArray }
theorem lobj_is {h : Heap} {a : Addr} {vs : List Value} (e : h.get? a = some (lobj vs)) : h.IsList a vs.toArray := ⟨_, e, rfl, _, rfl⟩
section
variable {prog : Program} {w : World} {A : Around} {env : Env} {h₀ : Heap}
theorem while_s {s : Shared} {hp : Heap} {tk : Nat} {test : Expr} {body : List Stmt} {pos : Pos} {Q : Flow → Shared → Prop} {m : Str → Option Value} (J : Nat → Heap → (Str → Option Value) → Prop) (n : Nat)
    (F : Fr h₀ env.locals hp m) (hJ : J n hp m)
    (turn : ∀ n h tk m W, J n h m → Fr h₀ env.locals h m → News h₀ env.locals h W → Kept h₀ env.locals h W →
      wpAny (model prog w) A (isTrue test env (eval test env)) (fun b s₂ => WhlIf b (wpAny (model prog w) A (execs body env) (TurnW s h₀ env.locals W J n Q) (fun _ _ => False) s₂) (wpAny (model prog w) A (execs [] env) Q (fun _ _ => False) s₂)) (fun _ _ => False) { s with heap := h, toks := tk }) :
    wpAny (model prog w) A (exec (.While test body [] pos) env) Q (fun _ _ => False) { s with heap := hp, toks := tk } :=
  while_J (s := { s with heap := hp, toks := tk }) J n F hJ fun n h tk m j F1 N1 => turn n h tk m _ j F1 N1 ⟨⟨_, F1⟩, rfl⟩
theorem for_s {s : Shared} {hp : Heap} {tk : Nat} {x : Str} {px : Pos} {body : List Stmt} {Q : Flow → Shared → Prop} {l : Addr} {items : Array Value} {m : Str → Option Value} (J : Nat → Heap → (Str → Option Value) → Prop)
    (hh : A.handled = none) (hl : hp.IsList l items) (hx : env.kindOf x = some .local) (hk : env.scope.kind = .function)
    (st : ∀ i h h' m, J i h m → SeqStay h h' → J i h' m) (F : Fr h₀ env.locals hp m) (hJ : J 0 hp m)
    (turn : ∀ i v h tk m W, items[i]? = some v → J i h m → Fr h₀ env.locals h (fun y => if y = x then some v else m y) → News h₀ env.locals h W → Kept h₀ env.locals h W →
      wpAny (model prog w) A (execs body env) (TurnF s h₀ env.locals W (J (i + 1)) Q) (fun _ _ => False) { s with heap := h, toks := tk })
    (done : ∀ h tk m, J items.size h m → Fr h₀ env.locals h m → Q .next { s with heap := h, toks := tk }) :
    wpAny (model prog w) A (pyIter (.ref l)) (fun it s₂ => codeAny (model prog w) A (.forLoop (.Name x px) it body [] env) (fun r s' => match r with | .ok f => Q f s' | .error e => cameBackBy (model prog w) A env (fun _ _ => False) e s') s₂) (fun _ _ => False) { s with heap := hp, toks := tk } :=
  for_list (s := { s with heap := hp, toks := tk }) J hh hl hx hk st F hJ (fun i v h tk m e j F1 N1 => turn i v h tk m _ e j F1 N1 ⟨⟨_, F1⟩, rfl⟩) done
end
theorem fr_for {h₀ h : Heap} {L : Addr} {m : Str → Option Value} {x : Str} {v : Value} (l : List (Str × Value)) (F : Fr h₀ L h (fun y => if y = x then some v else m y)) (e : ∀ p ∈ l, m p.1 = some p.2) : Fr h₀ L h (fun y => if y = x then some v else puts l m y) := by
  rw [show puts l m = m from funext (puts_eq e)]; exact F
/-- a call; the ledger is made new, and the state is short -/
theorem use_s {w : World} {A : Around} {f : Addr} {c c' : Nat} {P : Heap → List Value → Prop} {R : Heap → List Value → Heap → Value → Prop} {h₀ : Heap} {L : Addr} {m : Str → Option Value} {news : List (Addr × Obj)} {s : Shared} {hp : Heap} {tk : Nat} {vs : List Value} {Q E : Value → Shared → Prop}
    (D : Does w f c P R) (C : ∀ h m, Fr h₀ L h m → At w A c' h) (hc : c ≤ c') (F : Fr h₀ L hp m) (N : News h₀ L hp news) (hP : P hp vs)
    (k : ∀ r h' tk W, Fr h₀ L h' m → News h₀ L h' W → Kept h₀ L h' W → hp.StaysIn h' → R hp vs h' r → Q r { s with heap := h', toks := tk }) : wpAny (MM w) A (call (.ref f) vs) Q E { s with heap := hp, toks := tk } :=
  use_k (s := { s with heap := hp, toks := tk }) D C hc F N hP k
theorem use_sa {w : World} {A : Around} {f : Addr} {c c' : Nat} {P : Heap → List Value → Prop} {R : Heap → List Value → Heap → Value → Prop} {h₀ : Heap} {L : Addr} {m : Str → Option Value} {news : List (Addr × Obj)} {s : Shared} {hp : Heap} {tk : Nat} {vs : List Value} {Q E : Value → Shared → Prop}
    (D : Does w f c P R) (C : ∀ h m, Fr h₀ L h m → At w A c' h) (hc : c ≤ c') (F : Fr h₀ L hp m) (N : News h₀ L hp news) (hP : P hp vs)
    (k : ∀ r h' tk W, Fr h₀ L h' m → News h₀ L h' (news ++ W) → Kept h₀ L h' W → hp.StaysIn h' → R hp vs h' r → Q r { s with heap := h', toks := tk }) : wpAny (MM w) A (call (.ref f) vs) Q E { s with heap := hp, toks := tk } :=
  use_ka (s := { s with heap := hp, toks := tk }) D C hc F N hP k
section
variable {prog : Program} {w : World} {A : Around} {E : Value → Shared → Prop} {s : Shared} {h₀ : Heap} {L : Addr} {m : Str → Option Value} {news : List (Addr × Obj)}
theorem item_lst {value slice : Expr} {l : Addr} {vs : List Value} {k : Int} {u : Tok} {x : Value} {Q : Value → Shared → Prop}
    (hl : s.heap.IsList l vs.toArray) (h0 : 0 ≤ k) (hhi : k < 2 ^ 63) (hx : vs[k.toNat]? = some x) (h : Q x s)
    (hs : subscripted slice false (.ref l) (.int k u) = operate [.ref l, .int k u] (getItem (.ref l) (.int k u)) := by with_unfolding_all rfl) :
    wpAny (model prog w) A (subscriptTail value slice (.ref l) (.int k u)) Q E s :=
  tail_any hl.typeIs slot_list_getitem.lookup (wpAny_getItem_list hl h0 hhi (by simpa using hx) h) hs
theorem item_tup {value slice : Expr} {l : Addr} {xs : Array Value} {k : Int} {u : Tok} {x : Value} {Q : Value → Shared → Prop}
    (hl : IsTup s.heap l xs) (h0 : 0 ≤ k) (hhi : k < 2 ^ 63) (hx : xs[k.toNat]? = some x) (h : Q x s)
    (hs : subscripted slice false (.ref l) (.int k u) = operate [.ref l, .int k u] (getItem (.ref l) (.int k u)) := by with_unfolding_all rfl) :
    wpAny (model prog w) A (subscriptTail value slice (.ref l) (.int k u)) Q E s :=
  tail_any hl.typeIs slot_tuple_getitem.lookup (getItem_tuple hl (by omega) hhi (seqIndex_of h0 (by
    obtain ⟨hlt, _⟩ := Array.getElem?_eq_some_iff.mp hx
    omega)) hx h) hs
theorem cat_lst {l b : Addr} {vs ws : List Value} {Q : Value → Shared → Prop} (F : Fr h₀ L s.heap m) (N : News h₀ L s.heap news) (hl : s.heap.IsList l vs.toArray) (hb : s.heap.IsList b ws.toArray)
    (hsz : vs.length + ws.length ≤ 100000)
    (h : ∀ D h', Fr h₀ L h' m → News h₀ L h' ((D, lobj (vs ++ ws)) :: news) → Q (.ref D) { s with heap := h' }) :
    wpAny (model prog w) A (binaryOp .Add (.ref l) (.ref b)) Q E s :=
  add_lists F N hl hb (fun h' F' N' => h _ h' F' N') (Nat.le_trans hsz (by decide))
theorem cut_lst {value slice : Expr} {l : Addr} {vs zs : List Value} {vl vu : Value} {lo hi : Option Int} {Q : Value → Shared → Prop}
    (F : Fr h₀ L s.heap m) (N : News h₀ L s.heap news) (hl : s.heap.IsList l vs.toArray) (pl : IsPart vl lo) (pu : IsPart vu hi) (e : slicePick vs.toArray lo hi none = zs.toArray) (hsz : vs.length ≤ 100000)
    (h : ∀ D h', Fr h₀ L h' m → News h₀ L h' ((D, lobj zs) :: news) → Q (.ref D) { s with heap := h' })
    (hs : subscripted slice false (.ref l) (.ref s.heap.objs.size) = operate [.ref s.heap.objs.size, .ref l] (getItem (.ref l) (.ref s.heap.objs.size)) := by with_unfolding_all rfl)
    (ht : ∀ r, letTemporaryGo value (.ref l) r = pure () := by intro _; with_unfolding_all rfl) :
    wpAny (model prog w) A (subscriptTail value slice (.ref l) (.ref s.heap.objs.size)) Q E { s with heap := s.heap.push { cls := .type "slice", data := .fields #[vl, vu, .none] } } :=
  slice_list F N hl pl pu (fun h' F' N' => h _ h' F' (by rw [e] at N'; exact N')) hs ht (Nat.le_trans (by simpa using hsz) (by decide))
end
theorem pick_from (vs : List Value) (x : Int) (h : 0 ≤ x) : slicePick vs.toArray (some x) none none = (vs.drop x.toNat).toArray := by
  have e : sliceBounds (some x) none none vs.toArray.size = (((min x.toNat vs.toArray.size : Nat) : Int), ((vs.toArray.size : Nat) : Int), 1) := by
    simp only [sliceBounds, Option.getD_none, show (1 : Int) > 0 by decide, if_true, if_neg (show ¬ (x < 0) by omega)]
    congr 1
    omega
  rw [kmk_pick_nat _ e]
  show ((vs.drop (min x.toNat vs.toArray.size)).take (vs.toArray.size - min x.toNat vs.toArray.size)).toArray = _
  rw [List.size_toArray, kmk_drop_min, List.take_of_length_le (by rw [List.length_drop]; omega)]
theorem pick_upto (vs : List Value) (y : Int) (h : 0 ≤ y) : slicePick vs.toArray none (some y) none = (vs.take y.toNat).toArray := by
  have e : sliceBounds none (some y) none vs.toArray.size = (((0 : Nat) : Int), ((min y.toNat vs.toArray.size : Nat) : Int), 1) := by
    simp only [sliceBounds, Option.getD_none, show (1 : Int) > 0 by decide, if_true, if_neg (show ¬ (y < 0) by omega)]
    congr 1
    congr 1
    omega
  rw [kmk_pick_nat _ e]
  show ((vs.drop 0).take (min y.toNat vs.toArray.size - 0)).toArray = _
  rw [List.drop_zero, Nat.sub_zero, List.size_toArray, kmk_take_min]
theorem pick_run2 (vs : List Value) (x y : Int) (h : 0 ≤ x) (h2 : 0 ≤ y) : slicePick vs.toArray (some x) (some y) none = ((vs.drop x.toNat).take (min y.toNat vs.length - x.toNat)).toArray := by
  have e : sliceBounds (some x) (some y) none vs.toArray.size = (((min x.toNat vs.toArray.size : Nat) : Int), ((min y.toNat vs.toArray.size : Nat) : Int), 1) := by
    simp only [sliceBounds, Option.getD_none, show (1 : Int) > 0 by decide, if_true, if_neg (show ¬ (x < 0) by omega), if_neg (show ¬ (y < 0) by omega)]
    congr 1
    · omega
    · congr 1
      omega
  rw [kmk_pick_nat _ e]
  show ((vs.drop (min x.toNat vs.toArray.size)).take (min y.toNat vs.toArray.size - min x.toNat vs.toArray.size)).toArray = _
  rw [List.size_toArray, kmk_drop_min, show min y.toNat vs.length - min x.toNat vs.length = min y.toNat vs.length - x.toNat by omega]
inductive All2 {α β : Type} (R : α → β → Prop) : List α → List β → Prop where
  | nil : All2 R [] []
  | cons {a b as bs} : R a b → All2 R as bs → All2 R (a :: as) (b :: bs)
theorem All2.len {α β : Type} {R : α → β → Prop} {as : List α} {bs : List β} (h : All2 R as bs) : as.length = bs.length := by
  induction h with
  | nil => rfl
  | cons _ _ ih => simp [ih]
theorem All2.mono {α β : Type} {R S : α → β → Prop} (q : ∀ a b, R a b → S a b) {as : List α} {bs : List β} (h : All2 R as bs) : All2 S as bs := by
  induction h with
  | nil => exact .nil
  | cons x _ ih => exact .cons (q _ _ x) ih
theorem All2.get {α β : Type} {R : α → β → Prop} {as : List α} {bs : List β} (h : All2 R as bs) : ∀ (i : Nat) {a : α}, as[i]? = some a → ∃ b, bs[i]? = some b ∧ R a b := by
  induction h with
  | nil => intro i a e; cases e
  | @cons a b as bs x _ ih =>
    intro i a' e
    cases i with
    | zero => cases e; exact ⟨b, rfl, x⟩
    | succ i => exact ih i e
theorem All2.uncons {α β : Type} {R : α → β → Prop} {as : List α} {bs : List β} (h : All2 R as bs) (q : 0 < bs.length) : ∃ a as' b bs', as = a :: as' ∧ bs = b :: bs' ∧ R a b ∧ All2 R as' bs' := by
  cases h with
  | nil => exact absurd q (Nat.lt_irrefl _)
  | cons x h => exact ⟨_, _, _, _, rfl, rfl, x, h⟩
noncomputable def spine (t : Tr) (us : List Tr) : Tr := us.foldl Tr.ap t
noncomputable def sizes (us : List Tr) : Nat := (us.map Tr.size).sum
noncomputable def TreesAt (h : Heap) (a : Addr) (us : List Tr) : Prop := ∃ vs : List Value, h.IsList a vs.toArray ∧ All2 (TreeAt h) vs us
theorem TreesAt.keeps {h h' : Heap} {a : Addr} {us : List Tr} (x : TreesAt h a us) (k : h.StaysIn h') : TreesAt h' a us := by
  obtain ⟨vs, hl, hi⟩ := x
  obtain ⟨o, ho, r⟩ := hl
  exact ⟨vs, ⟨o, k a o ho, r⟩, hi.mono fun _ _ t => t.keeps k⟩
/-- plain law: spines -/
theorem lm_app {t t' : Tr} (us : List Tr) (h : Lm t t') (q : t.hd.ar ≤ t.sp) : Lm (spine t us) (spine t' us) := by
  induction us generalizing t t' with
  | nil => exact h
  | cons u us ih => exact ih (lm_left (no_root (by omega)) h) (by simp only [Tr.hd, Tr.sp]; omega)
theorem lm_lift {t t' : Tr} (us : List Tr) (q : t.sp + us.length < t.hd.ar) (h : Lm t t') : Lm (spine t us) (spine t' us) := by
  induction us generalizing t t' with
  | nil => exact h
  | cons u us ih =>
    simp only [List.length_cons] at q
    exact ih (by simp only [Tr.hd, Tr.sp]; omega) (lm_left (no_root (by omega)) h)
theorem nf_reds {t : Tr} (h : NF t) : reds t = [] := reds_nil.mpr h
theorem nf_ap {t u : Tr} (q : t.sp + 1 < t.hd.ar) (h : NF t) (g : NF u) : NF (.ap t u) := by
  rw [← reds_nil]
  simp only [reds]
  rw [no_root (by omega), nf_reds h, nf_reds g]; rfl
inductive Norms : List Tr → Nat → List Tr → Prop where
  | nil : Norms [] 0 []
  | cons {u v : Tr} {us vs : List Tr} {k n : Nat} : Many Lm u k v → NF v → Norms us n vs → Norms (u :: us) (k + n) (v :: vs)
theorem lm_norms {us vs : List Tr} {n : Nat} (h : Norms us n vs) : ∀ {t : Tr}, t.sp + us.length < t.hd.ar → NF t → Many Lm (spine t us) n (spine t vs) ∧ NF (spine t vs) := by
  induction h with
  | nil => intro t q nt; exact ⟨.nil _, nt⟩
  | @cons u v us vs k n a nv _ ih =>
    intro t q nt
    simp only [List.length_cons] at q
    obtain ⟨h1, h2⟩ := ih (t := .ap t v) (by simp only [Tr.hd, Tr.sp]; omega) (nf_ap (by omega) nt nv)
    have h3 : Many Lm (spine (.ap t u) us) k (spine (.ap t v) us) := by
      clear h1 h2 ih
      induction a with
      | nil => exact .nil _
      | cons s _ ih => exact .cons (lm_lift us (by simp only [Tr.hd, Tr.sp]; omega) (lm_right (no_root (by omega)) (nf_reds nt) s)) (ih nv)
    exact ⟨h3.trans h1, h2⟩
theorem Norms.len {us vs : List Tr} {n : Nat} (h : Norms us n vs) : us.length = vs.length := by
  induction h with
  | nil => rfl
  | cons _ _ _ ih => simp [ih]
noncomputable def texts (us : List Tr) : List Nat := (us.map fun u => u.text.cps.toList).flatten
theorem spine_text (t : Tr) (us : List Tr) : (spine t us).text.cps.toList = List.replicate us.length 64 ++ t.text.cps.toList ++ texts us := by
  induction us generalizing t with
  | nil => simp [spine, texts]
  | cons u us ih =>
    show (spine (.ap t u) us).text.cps.toList = _
    rw [ih]
    have : (Tr.ap t u).text.cps.toList = 64 :: (t.text.cps.toList ++ u.text.cps.toList) := by
      have e : (Tr.ap t u).text = Str.ofString "@" ++ t.text ++ u.text := rfl
      rw [e]
      show ((Str.ofString "@").cps ++ t.text.cps ++ u.text.cps).toList = _
      rw [show (Str.ofString "@").cps = #[64] by decide]
      simp
    rw [this]
    have r : ∀ (n : Nat) (l : List Nat), List.replicate n 64 ++ 64 :: l = 64 :: (List.replicate n 64 ++ l) := fun n l => by
      induction n with
      | zero => rfl
      | succ n ih => simp [List.replicate_succ, ih]
    simp only [List.length_cons, texts, List.map_cons, List.flatten_cons, List.replicate_succ, List.cons_append, List.append_assoc, r]
theorem Norms.snoc {us vs : List Tr} {u v : Tr} {n k : Nat} (h : Norms us n vs) (m : Many Lm u k v) (nv : NF v) : Norms (us ++ [u]) (n + k) (vs ++ [v]) := by
  induction h with
  | nil => have := Norms.cons m nv .nil; simpa using this
  | cons a b _ ih => have := Norms.cons a b ih; simpa [Nat.add_assoc] using this
theorem texts_snoc (us : List Tr) (v : Tr) : texts (us ++ [v]) = texts us ++ v.text.cps.toList := by simp [texts]
theorem Str.eq_of {x y : Str} (h : x.cps.toList = y.cps.toList) : x = y := by
  cases x; cases y; simp only [Str.mk.injEq]; exact Array.ext' h
theorem Str.cps_append (x y : Str) : (x ++ y).cps.toList = x.cps.toList ++ y.cps.toList := by
  show (x.cps ++ y.cps).toList = _
  simp
theorem mul_cps (n : Nat) (h : n ≤ 3) : (Txt.mul (Str.ofString "@") (n : Int)).cps.toList = List.replicate n 64 := by
  match n, h with
  | 0, _ => decide
  | 1, _ => decide
  | 2, _ => decide
  | 3, _ => decide
theorem mem_sizes {us : List Tr} {i : Nat} {u : Tr} (h : us[i]? = some u) : u.size ≤ sizes us := by
  induction us generalizing i with
  | nil => cases h
  | cons a us ih =>
    cases i with
    | zero => cases h; simp only [sizes, List.map_cons, List.sum_cons]; omega
    | succ i => have := ih h; simp only [sizes, List.map_cons, List.sum_cons] at *; omega
theorem sizes_len (us : List Tr) : us.length ≤ sizes us := by
  induction us with
  | nil => exact Nat.le_refl _
  | cons u us ih =>
    have := u.size_pos
    simp only [sizes, List.map_cons, List.sum_cons, List.length_cons] at *; omega
theorem spine_size (t : Tr) (us : List Tr) : (spine t us).size = t.size + sizes us := by
  induction us generalizing t with
  | nil => rfl
  | cons u us ih =>
    show (spine (.ap t u) us).size = _
    rw [ih]; simp only [Tr.size, sizes, List.map_cons, List.sum_cons]; omega
end Mine
/-! part W11 -/
local macro_rules | `(tactic| walk_at "w_sub") => `(tactic| (intro _ hp; repeat' (first | exact hp | refine List.mem_cons_of_mem _ ?_)))
local macro_rules | `(tactic| walk_at "lst_now") => `(tactic| first | is_list | exact Mine.LstWas.now (by assumption) (by assumption) (by assumption) (by walk_at "w_sub"))
local macro_rules | `(tactic| walk_at "tup_now") => `(tactic| first | is_tup | exact Mine.TupWas.now (by assumption) (by assumption) (by assumption) (by walk_at "w_sub"))
local macro_rules | `(tactic| walk_at "mem_now") => `(tactic| (repeat' (first | exact List.Mem.head _ | refine List.Mem.tail _ ?_)))
namespace Mine
open PySem PySem.W PyProof.Rows PySem.Calls
theorem fill6 : KK = KK ∧ PySem.Challenge.rw_wf0081_01 = PySem.Challenge.rw_wf0081_01 := by
  k_fill
  exact ⟨rfl, rfl⟩
local macro_rules | `(tactic| walk_at "exec While BoolOp cons nil") => `(tactic| (refine stop_ ?_))
local macro_rules | `(tactic| walk_at "exec For") => `(tactic| (refine stop_ ?_))
local macro_rules | `(tactic| walk_at "call ref") => `(tactic| (refine stop_ ?_))
local macro_rules | `(tactic| walk_at "call builtin:len") => `(tactic| (refine call_len_list (by walk_at "lst_now") (by simp; omega) ?_))
local macro_rules | `(tactic| walk_at "call builtin:isinstance") => `(tactic| (k_here; (with_reducible show wpAny _ _ (call (Value.builtin "isinstance") [Value.ref _, Value.type "tuple"]) _ _ _); (refine isi_tup (by walk_at "tup_now") ?_)))
local macro_rules | `(tactic| walk_at "subscriptTail Name Constant ref int") => `(tactic| first | (refine item_lst (by walk_at "lst_now") (by decide) (by decide) rfl ?_) | (refine item_tup (by walk_at "tup_now") (by decide) (by decide) rfl ?_))
local macro_rules | `(tactic| walk_at "binaryOp Add ref ref") => `(tactic| (refine cat_lst (by assumption) (by assumption) (by walk_at "lst_now") (by walk_at "lst_now") (by simp; omega) ?_; intro D' h' F' N'))
local macro_rules | `(tactic| walk_at "subscriptTail Name Slice ref ref") => `(tactic| (refine stop_ ?_))
local macro_rules | `(tactic| walk_at "WhlIf") => `(tactic| (refine stop_ ?_))
set_option maxHeartbeats 8000000
noncomputable abbrev OuterR (t : Tr) (us : List Tr) : Heap → List Value → Heap → Value → Prop := fun _ _ h' r => ∃ a k u tk tk', r = .ref a ∧ IsTup h' a #[.str u.text tk, .int (k : Nat) tk'] ∧ Many Lm (spine t us) k u ∧ NF u
/-- behind the while -/
noncomputable def OutExit (s : Shared) (h₀ : Heap) (L : Addr) (t : Tr) (us : List Tr) (fl : Flow) (s' : Shared) : Prop :=
  ∃ (x : Le) (t2 : Tok) (us' : List Tr) (vs : List Value) (ra : Addr) (k : Nat) (tks : Tok) (h : Heap) (tk : Nat) (m : Str → Option Value), fl = .next ∧ s' = { s with heap := h, toks := tk } ∧ Fr h₀ L h m ∧
    m "head" = some (.str x.str t2) ∧ m "rest" = some (.ref ra) ∧ m "steps" = some (.int (k : Nat) tks) ∧ h.IsList ra vs.toArray ∧ All2 (TreeAt h) vs us' ∧ us'.length < x.ar ∧ Many Lm (spine t us) k (spine (.lf x) us') ∧ sizes us' + 1 ≤ t.size + sizes us
theorem does_outer (w : World) : ∀ (n : Nat) (t : Tr) (us : List Tr), t.size + sizes us ≤ n → t.size + sizes us ≤ 8 → ∀ v a, Does w 163 (n + 2) (fun h vs => vs = [v, .ref a] ∧ TreeAt h v t ∧ TreesAt h a us) (OuterR t us)
  | 0, t, us, hn, _ => absurd t.size_pos (by omega)
  | n + 1, t, us, hn, hz => by
    intro v a
    refine does_of (binds := fun vs => (["tree", "behind"] : List Str).zip vs) (look_outer _) (by kernel_rfl) ?_ ?_ (by kernel_rfl) (by kernel_rfl) (by kernel_rfl) (by decide +kernel)
    · rintro h vs ⟨rfl, _⟩
      exact ⟨by kernel_rfl, by kernel_rfl⟩
    · rintro ⟨hdl, dp, frs, gd, un⟩ s _ h₁ tk base outs mean mg mb C B X T ⟨rfl, h1, h2⟩ F
      obtain rfl : hdl = none := (C _ _ F).hd
      obtain rfl : frs = some outs := B.stack
      w_on
      have N : News s.heap s.heap.objs.size h₁ [] := News.nil
      k_steps
      rename Obj => o'
      rename Obj.IsDictOf _ _ _ => hd'
      rename (_ == sysModules) = false => lo'
      rename Fr _ _ _ _ => F'
      rename News _ _ _ _ => N'
      dsimp only at hd' N'
      generalize h₁.objs.size = D at lo' F' N' ⊢
      obtain ⟨vs0, hl0, ha0⟩ := h2
      have hd0 := N' _ (.head _)
      refine ⟨wpAny_mono (while_s (Q := OutExit s s.heap s.heap.objs.size t us) (J := fun n0 h m => ∃ (t' : Tr) (us' : List Tr) (hv : Value) (ra : Addr) (vs : List Value) (k : Nat) (c : Int) (tk : Tok), n0 = 20 * (t'.size + sizes us') + t'.size ∧ m "head" = some hv ∧ m "rest" = some (.ref ra) ∧ m "steps" = some (.int c tk) ∧ c = k ∧ m "takes" = some (.ref D) ∧
        h.get? D = some o' ∧ h.IsList ra vs.toArray ∧ TreeAt h hv t' ∧ All2 (TreeAt h) vs us' ∧ Many Lm (spine t us) k (spine t' us') ∧ t'.size + sizes us' ≤ t.size + sizes us) (20 * (t.size + sizes us) + t.size) F'
        ⟨t, us, _, _, _, 0, _, _, rfl, rfl, rfl, rfl, rfl, rfl, hd0.1, Fr.lst F' hl0, h1.keeps F'.keep, ha0.mono fun _ _ t => t.keeps F'.keep, .nil _, Nat.le_refl _⟩ ?_) (fun fl s' hx => ?_) (fun _ _ e => e.elim)⟩
      rotate_left
      · obtain ⟨x, t2, us', vs, ra, k, tks, h, tk0, m, rfl, rfl, F1, m1, m2, m3, hl, ha, hlt, mk, hsz⟩ := hx
        clear F' N' hd0 hd' lo'
        have F2 := fr_puts _ F1 (allc m1 (allc m2 (all1 m3)))
        simp only [puts] at F2
        clear F1
        have N2 : News s.heap s.heap.objs.size h (allBut s.heap [s.heap.objs.size] h) := news_allBut (by simp)
        have K2 : Kept s.heap s.heap.objs.size h (allBut s.heap [s.heap.objs.size] h) := ⟨⟨_, F2⟩, rfl⟩
        generalize allBut s.heap [s.heap.objs.size] h = W at N2 K2
        have hvs := ha.len
        have x3 := x.ar_le
        have xl := le_len x
        k_steps
        refine ⟨wpAny_For ?_⟩
        k_steps
        rename Fr _ _ _ _ => F3
        rename News _ _ _ _ => N3
        have sq := K2.seq F3 N3 (by walk_at "w_sub")
        refine for_s (J := fun i h m => ∃ (tx : Str) (t3 : Tok) (c : Int) (t4 : Tok) (ni : Nat) (ws : List Tr), m "text" = some (.str tx t3) ∧ m "steps" = some (.int c t4) ∧ c = ((k + ni : Nat) : Int) ∧ Norms (us'.take i) ni ws ∧ tx.cps.toList = List.replicate us'.length 64 ++ (Tr.lf x).text.cps.toList ++ texts ws ∧ tx.length ≤ 16 + 16 * i ∧ ni ≤ 8 * i ∧ All2 (TreeAt h) vs us') rfl (Mine.IsList.seqStay hl sq) rfl rfl
          ?_ F3 ⟨_, _, _, _, 0, [], rfl, rfl, rfl, .nil, ?_, ?_, Nat.zero_le _, ha.mono fun _ _ q => q.seqStay sq⟩ ?_ ?_
        · rintro i h h' m ⟨tx, t3, c, t4, ni, ws, e1, e2, e3, e4, e5, e6, e8, e7⟩ q
          exact ⟨tx, t3, c, t4, ni, ws, e1, e2, e3, e4, e5, e6, e8, e7.mono fun _ _ x => x.seqStay q⟩
        · rw [Str.cps_append]
          simp only [List.size_toArray, hvs]
          rw [mul_cps _ (by omega)]
          simp [texts, Tr.text]
        · have e1 : ∀ x : Str, x.length = x.cps.toList.length := fun x => by simp [Str.length]
          rw [e1, Str.cps_append]
          simp only [List.size_toArray, hvs, List.length_append]
          rw [mul_cps _ (by omega), List.length_replicate, ← e1, le_len]
          omega
        · clear F3 N3 sq
          rintro i v h4 tk4 m4 W4 hi ⟨tx, t3, c, t4, ni, ws, e1, e2, rfl, e4, e5, e6, e8, e7⟩ F4 N4 K4
          obtain ⟨u, hu, htu⟩ := e7.get i (by simpa using hi)
          have zu := mem_sizes hu
          have hi2 : i < us'.length := (List.getElem?_eq_some_iff.mp hu).1
          have zs := mk.size fun _ _ g => g.step
          rw [spine_size, spine_size] at zs
          have F5 := fr_for _ F4 (allc (x := "text") e1 (all1 (x := "steps") e2))
          simp only [puts] at F5
          clear F4
          k_steps
          rename Fr _ _ _ _ => F6
          rename News _ _ _ _ => N6
          have sq6 := K4.seq F6 N6 (by walk_at "w_sub")
          refine ⟨use_sa (does_outer w n u [] (by simp only [sizes, List.map_nil, List.sum_nil] at *; omega) (by simp only [sizes, List.map_nil, List.sum_nil] at *; omega) _ _) C (by omega) (by assumption) (by assumption) ⟨rfl, htu.seqStay sq6, ⟨[], News.isList N6 (by walk_at "mem_now"), .nil⟩⟩ ?_⟩
          rintro _ h6 tk6 W6 F7 N7 K7 st7 ⟨a6, k6, u6, t6, t6', rfl, i6, m6, nf6⟩
          have z6 := u6.text_len
          have z7 := m6.size fun _ _ g => g.step
          rw [spine_size] at z7
          simp only [sizes, List.map_nil, List.sum_nil] at z7
          have hsq6 : SeqStay h4 h6 := sq6.trans (SeqStay.of st7)
          have N9 : News s.heap s.heap.objs.size h6 (W4 ++ W6) := fun p hp => N7 p (List.mem_cons_of_mem _ hp)
          have hs4 : ∀ p ∈ W4, p ∈ W4 ++ W6 := fun p hp => List.mem_append_left _ hp
          have hs6 : ∀ p ∈ W6, p ∈ W4 ++ W6 := fun p hp => List.mem_append_right _ hp
          generalize W4 ++ W6 = W8 at N9 hs4 hs6
          clear N7 N6 F6
          k_steps
          rename Fr _ _ _ _ => F8
          rename News _ _ _ _ => N8
          have sq8 := hsq6.trans (K7.seq F8 N8 hs6)
          refine Turn.intro F8 N8 hs4 ⟨tx ++ u6.text, _, _, _, ni + k6, ws ++ [u6], rfl, rfl, by push_cast; omega, ?_, ?_, ?_, by omega, e7.mono fun _ _ q => q.seqStay sq8⟩
          · rw [List.take_add_one, hu]
            exact e4.snoc m6 nf6
          · rw [Str.cps_append, e5, texts_snoc, List.append_assoc]
          · rw [Str.length_append]; omega
        · rintro h4 tk4 m4 ⟨tx, t3, c, t4, ni, ws, e1, e2, rfl, e4, e5, e6, e8, e7⟩ F4
          have F5 := fr_puts _ F4 (allc (x := "text") e1 (all1 (x := "steps") e2))
          simp only [puts] at F5
          have N4 : News s.heap s.heap.objs.size h4 [] := News.nil
          have zs := mk.size fun _ _ g => g.step
          rw [spine_size, spine_size] at zs
          clear F4
          have hi9 : vs.toArray.size ≤ 8 := by
            have := x.ar_le
            simp only [List.size_toArray]; omega
          k_steps
          rename Fr _ _ _ _ => F8
          rename News _ _ _ _ => N8
          have e9 : List.take vs.toArray.size us' = us' := List.take_of_length_le (by simp only [List.size_toArray]; omega)
          rw [e9] at e4
          obtain ⟨q1, q2⟩ := lm_norms e4 (t := .lf x) (by simpa [Tr.sp, Tr.hd] using hlt) (nf_lf x)
          have e10 : tx = (spine (.lf x) ws).text := Str.eq_of (by rw [e5, spine_text, e4.len])
          exact Fin1.intro F8 ⟨_, k + ni, spine (.lf x) ws, t3, t4, rfl, ⟨_, (N8 _ (.head _)).1, rfl, _, by rw [e10]⟩, mk.trans q1, q2⟩
      clear F' N'
      rintro n0 h tk0 m W ⟨t', us', hv, ra, vs, k, c, tks, rfl, m1, m2, m3, rfl, m4, gD, hl, ht, ha, mk, hsz⟩ F1 N1 K
      have F2 := fr_puts _ F1 (allc m1 (allc m2 (allc m3 (all1 m4))))
      simp only [puts] at F2
      have N2 : News s.heap s.heap.objs.size h ((D, o') :: W) := by
        rintro p hp
        rcases List.mem_cons.mp hp with rfl | hp
        · exact ⟨gD, fun e => hd0.2.1 e, hd0.2.2⟩
        · exact N1 p hp
      have hlW : LstWas s.heap s.heap.objs.size W ra vs := ⟨h, K, hl⟩
      have hvl : vs.length ≤ 8 := by
        have := ha.len
        have := sizes_len us'
        omega
      clear N1 F1
      cases ht with
      | @ap b x y l r i1 hx hy =>
        have i1W : TupWas s.heap s.heap.objs.size W b #[x, y] := ⟨h, K, i1⟩
        k_steps
        refine ⟨WhlIf.yes rfl ?_⟩
        k_steps
        rename Fr _ _ _ _ => F3
        rename News _ _ _ _ => N3
        have sq := K.seq F3 N3 (by walk_at "w_sub")
        refine Turn.intro F3 N3 (by walk_at "w_sub") ⟨20 * (l.size + sizes (r :: us')) + l.size, ?_, l, r :: us', x, _, y :: vs, k, _, _, rfl, rfl, rfl, rfl, rfl, rfl, ?_, ?_, hx.seqStay sq, .cons (hy.seqStay sq) (ha.mono fun _ _ q => q.seqStay sq), mk, ?_⟩
        · have := r.size_pos
          simp only [Tr.size, sizes, List.map_cons, List.sum_cons]; omega
        · exact (N3 _ (.tail _ (.tail _ (.head _)))).1
        · exact ⟨_, (N3 _ (.head _)).1, rfl, _, rfl⟩
        · simp only [Tr.size, sizes, List.map_cons, List.sum_cons] at hsz ⊢; omega
      | lf x t2 =>
        rcases Nat.lt_or_ge us'.length x.ar with hlt | hge
        · cases x
          case i =>
            k_steps
            all_goals try (exfalso; rename (_ : Int) ≤ _ => q; have := ha.len; simp only [Le.ar, List.size_toArray] at hlt q; omega)
            · refine ⟨WhlIf.no rfl ?_⟩
              k_steps
              rename Fr _ _ _ _ => F3
              rename News _ _ _ _ => N3
              have sq := K.seq F3 N3 (by walk_at "w_sub")
              exact ⟨Le.i, _, us', vs, ra, k, _, _, _, _, rfl, rfl, F3, rfl, rfl, rfl, Mine.IsList.seqStay hl sq, ha.mono fun _ _ q => q.seqStay sq, hlt, mk, by simp only [Tr.size] at hsz; omega⟩
          case k =>
            k_steps
            all_goals try (exfalso; rename (_ : Int) ≤ _ => q; have := ha.len; simp only [Le.ar, List.size_toArray] at hlt q; omega)
            · refine ⟨WhlIf.no rfl ?_⟩
              k_steps
              rename Fr _ _ _ _ => F3
              rename News _ _ _ _ => N3
              have sq := K.seq F3 N3 (by walk_at "w_sub")
              exact ⟨Le.k, _, us', vs, ra, k, _, _, _, _, rfl, rfl, F3, rfl, rfl, rfl, Mine.IsList.seqStay hl sq, ha.mono fun _ _ q => q.seqStay sq, hlt, mk, by simp only [Tr.size] at hsz; omega⟩
          case b =>
            k_steps
            all_goals try (exfalso; rename (_ : Int) ≤ _ => q; have := ha.len; simp only [Le.ar, List.size_toArray] at hlt q; omega)
            · refine ⟨WhlIf.no rfl ?_⟩
              k_steps
              rename Fr _ _ _ _ => F3
              rename News _ _ _ _ => N3
              have sq := K.seq F3 N3 (by walk_at "w_sub")
              exact ⟨Le.b, _, us', vs, ra, k, _, _, _, _, rfl, rfl, F3, rfl, rfl, rfl, Mine.IsList.seqStay hl sq, ha.mono fun _ _ q => q.seqStay sq, hlt, mk, by simp only [Tr.size] at hsz; omega⟩
          case c =>
            k_steps
            all_goals try (exfalso; rename (_ : Int) ≤ _ => q; have := ha.len; simp only [Le.ar, List.size_toArray] at hlt q; omega)
            · refine ⟨WhlIf.no rfl ?_⟩
              k_steps
              rename Fr _ _ _ _ => F3
              rename News _ _ _ _ => N3
              have sq := K.seq F3 N3 (by walk_at "w_sub")
              exact ⟨Le.c, _, us', vs, ra, k, _, _, _, _, rfl, rfl, F3, rfl, rfl, rfl, Mine.IsList.seqStay hl sq, ha.mono fun _ _ q => q.seqStay sq, hlt, mk, by simp only [Tr.size] at hsz; omega⟩
        · cases x
          case i =>
            obtain ⟨y1, vs, u1, us', rfl, rfl, hy1, ha⟩ := ha.uncons (by simp [Le.ar] at hge ⊢; omega)
            have hvs := ha.len
            simp only [List.length_cons] at hvl
            k_steps
            all_goals try (exfalso; rename ¬ ((_ : Int) ≤ _) => q; simp only [List.size_toArray, List.length_cons] at q; omega)
            · refine ⟨WhlIf.yes rfl ?_⟩
              k_steps
              refine ⟨cut_lst (by assumption) (by assumption) (by walk_at "lst_now") (.int _ _) .none (pick_from _ _ (by decide)) (by simp only [List.length_cons]; omega) ?_⟩
              intro D5 h5 F5 N5
              k_steps
              rename Fr _ _ _ _ => F3
              rename News _ _ _ _ => N3
              have sq := K.seq F3 N3 (by walk_at "w_sub")
              refine Turn.intro F3 N3 (by walk_at "w_sub") ⟨20 * (u1.size + sizes (us')) + u1.size, ?_, u1, us', y1, _, _, k + 1, _, _, rfl, rfl, rfl, rfl, ?_, rfl, ?_, ⟨_, (N3 _ (.head _)).1, rfl, _, rfl⟩, hy1.seqStay sq, (ha.mono fun _ _ q => q.seqStay sq), mk.snoc (lm_app us' (lm_root (s := []) rfl) (by simp [Tr.hd, Tr.sp, Le.ar])), ?_⟩
              · have hq := Nat.le_trans hsz hz
                simp only [Tr.size, sizes, List.map_cons, List.sum_cons] at hq ⊢; omega
              · push_cast; rfl
              · exact (N3 (D, o') (by walk_at "mem_now")).1
              · simp only [Tr.size, sizes, List.map_cons, List.sum_cons] at hsz ⊢; omega
          case k =>
            obtain ⟨y1, vs, u1, us', rfl, rfl, hy1, ha⟩ := ha.uncons (by simp [Le.ar] at hge ⊢; omega)
            obtain ⟨y2, vs, u2, us', rfl, rfl, hy2, ha⟩ := ha.uncons (by simp [Le.ar] at hge ⊢; omega)
            have hvs := ha.len
            simp only [List.length_cons] at hvl
            k_steps
            all_goals try (exfalso; rename ¬ ((_ : Int) ≤ _) => q; simp only [List.size_toArray, List.length_cons] at q; omega)
            · refine ⟨WhlIf.yes rfl ?_⟩
              k_steps
              refine ⟨cut_lst (by assumption) (by assumption) (by walk_at "lst_now") (.int _ _) .none (pick_from _ _ (by decide)) (by simp only [List.length_cons]; omega) ?_⟩
              intro D5 h5 F5 N5
              k_steps
              rename Fr _ _ _ _ => F3
              rename News _ _ _ _ => N3
              have sq := K.seq F3 N3 (by walk_at "w_sub")
              refine Turn.intro F3 N3 (by walk_at "w_sub") ⟨20 * (u1.size + sizes (us')) + u1.size, ?_, u1, us', y1, _, _, k + 1, _, _, rfl, rfl, rfl, rfl, ?_, rfl, ?_, ⟨_, (N3 _ (.head _)).1, rfl, _, rfl⟩, hy1.seqStay sq, (ha.mono fun _ _ q => q.seqStay sq), mk.snoc (lm_app us' (lm_root (s := []) rfl) (by simp [Tr.hd, Tr.sp, Le.ar])), ?_⟩
              · have hq := Nat.le_trans hsz hz
                simp only [Tr.size, sizes, List.map_cons, List.sum_cons] at hq ⊢; omega
              · push_cast; rfl
              · exact (N3 (D, o') (by walk_at "mem_now")).1
              · simp only [Tr.size, sizes, List.map_cons, List.sum_cons] at hsz ⊢; omega
          case b =>
            obtain ⟨y1, vs, u1, us', rfl, rfl, hy1, ha⟩ := ha.uncons (by simp [Le.ar] at hge ⊢; omega)
            obtain ⟨y2, vs, u2, us', rfl, rfl, hy2, ha⟩ := ha.uncons (by simp [Le.ar] at hge ⊢; omega)
            obtain ⟨y3, vs, u3, us', rfl, rfl, hy3, ha⟩ := ha.uncons (by simp [Le.ar] at hge ⊢; omega)
            have hvs := ha.len
            simp only [List.length_cons] at hvl
            k_steps
            all_goals try (exfalso; rename ¬ ((_ : Int) ≤ _) => q; simp only [List.size_toArray, List.length_cons] at q; omega)
            · refine ⟨WhlIf.yes rfl ?_⟩
              k_steps
              refine ⟨cut_lst (by assumption) (by assumption) (by walk_at "lst_now") (.int _ _) .none (pick_from _ _ (by decide)) (by simp only [List.length_cons]; omega) ?_⟩
              intro D5 h5 F5 N5
              k_steps
              rename Fr _ _ _ _ => F3
              rename News _ _ _ _ => N3
              have sq := K.seq F3 N3 (by walk_at "w_sub")
              refine Turn.intro F3 N3 (by walk_at "w_sub") ⟨20 * (u1.size + sizes (Tr.ap u2 u3 :: us')) + u1.size, ?_, u1, Tr.ap u2 u3 :: us', y1, _, _, k + 1, _, _, rfl, rfl, rfl, rfl, ?_, rfl, ?_, ⟨_, (N3 _ (.head _)).1, rfl, _, rfl⟩, hy1.seqStay sq, (.cons (.ap (News.isTup N3 (by walk_at "mem_now")) (hy2.seqStay sq) (hy3.seqStay sq)) (ha.mono fun _ _ q => q.seqStay sq)), mk.snoc (lm_app us' (lm_root (s := []) rfl) (by simp [Tr.hd, Tr.sp, Le.ar])), ?_⟩
              · have hq := Nat.le_trans hsz hz
                simp only [Tr.size, sizes, List.map_cons, List.sum_cons] at hq ⊢; omega
              · push_cast; rfl
              · exact (N3 (D, o') (by walk_at "mem_now")).1
              · simp only [Tr.size, sizes, List.map_cons, List.sum_cons] at hsz ⊢; omega
          case c =>
            obtain ⟨y1, vs, u1, us', rfl, rfl, hy1, ha⟩ := ha.uncons (by simp [Le.ar] at hge ⊢; omega)
            obtain ⟨y2, vs, u2, us', rfl, rfl, hy2, ha⟩ := ha.uncons (by simp [Le.ar] at hge ⊢; omega)
            obtain ⟨y3, vs, u3, us', rfl, rfl, hy3, ha⟩ := ha.uncons (by simp [Le.ar] at hge ⊢; omega)
            have hvs := ha.len
            simp only [List.length_cons] at hvl
            k_steps
            all_goals try (exfalso; rename ¬ ((_ : Int) ≤ _) => q; simp only [List.size_toArray, List.length_cons] at q; omega)
            · refine ⟨WhlIf.yes rfl ?_⟩
              k_steps
              refine ⟨cut_lst (by assumption) (by assumption) (by walk_at "lst_now") (.int _ _) .none (pick_from _ _ (by decide)) (by simp only [List.length_cons]; omega) ?_⟩
              intro D5 h5 F5 N5
              k_steps
              rename Fr _ _ _ _ => F3
              rename News _ _ _ _ => N3
              have sq := K.seq F3 N3 (by walk_at "w_sub")
              refine Turn.intro F3 N3 (by walk_at "w_sub") ⟨20 * (u1.size + sizes (u3 :: u2 :: us')) + u1.size, ?_, u1, u3 :: u2 :: us', y1, _, _, k + 1, _, _, rfl, rfl, rfl, rfl, ?_, rfl, ?_, ⟨_, (N3 _ (.head _)).1, rfl, _, rfl⟩, hy1.seqStay sq, (.cons (hy3.seqStay sq) (.cons (hy2.seqStay sq) (ha.mono fun _ _ q => q.seqStay sq))), mk.snoc (lm_app us' (lm_root (s := []) rfl) (by simp [Tr.hd, Tr.sp, Le.ar])), ?_⟩
              · have hq := Nat.le_trans hsz hz
                simp only [Tr.size, sizes, List.map_cons, List.sum_cons] at hq ⊢; omega
              · push_cast; rfl
              · exact (N3 (D, o') (by walk_at "mem_now")).1
              · simp only [Tr.size, sizes, List.map_cons, List.sum_cons] at hsz ⊢; omega
end Mine
/-! part W12 -/
namespace Mine
open PySem PySem.W PyProof.Rows PySem.Calls
noncomputable def sg (c : Nat) : Str := ⟨#[c]⟩
/-- lists and tuples stay; and all that stood before N stays, but for the frame -/
structure Stay (N : Nat) (L : Addr) (h h' : Heap) : Prop where
  seq : SeqStay h h'
  old : ∀ b o, b < N → b ≠ L → h.get? b = some o → h'.get? b = some o
theorem Stay.trans {N : Nat} {L : Addr} {a b c : Heap} (x : Stay N L a b) (y : Stay N L b c) : Stay N L a c := ⟨x.seq.trans y.seq, fun q o i j e => y.old q o i j (x.old q o i j e)⟩
theorem Stay.of {N : Nat} {L : Addr} {h h' : Heap} (k : ∀ b o, h.get? b = some o → h'.get? b = some o) : Stay N L h h' := ⟨SeqStay.of k, fun b o _ _ e => k b o e⟩
section
variable {prog : Program} {w : World} {A : Around} {s : Shared} {env : Env} {h₀ : Heap}
/-- a for over any source: how it gives an item, how it ends -/
theorem forG {target : Expr} {body orelse : List Stmt} {Q : Flow → Shared → Prop} {I : Addr} {n : Nat} {St : Nat → Heap → Prop} {m : Str → Option Value} {N : Nat} (ch : List Addr)
    (V : Nat → Nat → Nat → (Str → Option Value) → (Str → Option Value) → Prop) (J : Nat → Heap → (Str → Option Value) → Prop)
    (item : ∀ i h tk m, i < n → St i h → Fr h₀ env.locals h m → ∀ (G : Shared → Prop), (∀ h' tk' m', V i tk tk' m m' → Stay N env.locals h h' → St (i + 1) h' → Fr h₀ env.locals h' m' → G { s with heap := h', toks := tk' }) →
      wpAny (model prog w) A (pyNext (.ref I)) (fun r s₁ => match r with | none => False | some v => wpAny (model prog w) A (letOwnedTupleGo target (.ref I) v) (fun _ s₂ => wpAny (model prog w) A (assign target env v) (fun _ s₃ => G s₃) (fun _ _ => False) s₂) (fun _ _ => False) s₁) (fun _ _ => False) { s with heap := h, toks := tk })
    (last : ∀ h tk m, St n h → Fr h₀ env.locals h m → ∀ (G : Shared → Prop), (∀ h' tk', Stay N env.locals h h' → Fr h₀ env.locals h' m → G { s with heap := h', toks := tk' }) →
      wpAny (model prog w) A (pyNext (.ref I)) (fun r s₁ => match r with | none => G s₁ | some _ => False) (fun _ _ => False) { s with heap := h, toks := tk })
    (keep : ∀ i h h', St i h → (∀ b o, b ≠ env.locals → b ∉ ch → h.get? b = some o → h'.get? b = some o) → St i h')
    (st : ∀ i h h' m, J i h m → Stay N env.locals h h' → J i h' m) (hst : St 0 s.heap) (F : Fr h₀ env.locals s.heap m) (hJ : J 0 s.heap m)
    (turn : ∀ i h tk tk0 m m', i < n → s.toks ≤ tk0 → V i tk0 tk m m' → J i h m → Fr h₀ env.locals h m' → News h₀ env.locals h (allBut h₀ (env.locals :: ch) h) →
      wpAny (model prog w) A (execs body env) (TurnF s h₀ env.locals (allBut h₀ (env.locals :: ch) h) (J (i + 1)) Q) (fun _ _ => False) { s with heap := h, toks := tk })
    (mono : ∀ i a b m m', V i a b m m' → a ≤ b)
    (done : ∀ h tk m, J n h m → Fr h₀ env.locals h m → wpAny (model prog w) A (execs orelse env) Q (fun _ _ => False) { s with heap := h, toks := tk }) :
    codeAny (model prog w) A (.forLoop target (.ref I) body orelse env) (fun r s' => match r with | .ok f => Q f s' | .error e => cameBackBy (model prog w) A env (fun _ _ => False) e s') s := by
  refine codeAny_forLoop_any (fun k s' => ∃ i h tk m', k = n + 1 - i ∧ i ≤ n ∧ s' = { s with heap := h, toks := tk } ∧ s.toks ≤ tk ∧ St i h ∧ J i h m' ∧ Fr h₀ env.locals h m') ?_ (n + 1) ⟨0, s.heap, s.toks, m, rfl, Nat.zero_le _, rfl, Nat.le_refl _, hst, hJ, F⟩
  rintro k _ ⟨i, h, tk, m', rfl, hi, rfl, ht, hs, hj, F'⟩
  by_cases hin : i < n
  · refine wpAny_mono (item i h tk m' hin hs F' (fun s3 => wpAny (model prog w) A (execs body env) (fun f s₃ => match f with
            | .next | .cont => ∃ m, m < n + 1 - i ∧ ∃ i h tk m', m = n + 1 - i ∧ i ≤ n ∧ s₃ = { s with heap := h, toks := tk } ∧ s.toks ≤ tk ∧ St i h ∧ J i h m' ∧ Fr h₀ env.locals h m'
            | .brk => Q .next s₃
            | .ret v => Q (.ret v) s₃) (fun _ _ => False) s3) (fun h2 tk2 m2 hv hsq hst2 F2 => ?_)) (fun r s1 h1 => ?_) (fun _ _ e => e.elim)
    · have hle := mono _ _ _ _ _ hv
      have ht2 : s.toks ≤ ({ s with heap := h2, toks := tk2 } : Shared).toks := Nat.le_trans ht hle
      refine wpAny_with_toks ht2 (wpAny_mono (turn i h2 tk2 tk m' m2 hin ht hv (st _ _ _ _ hj hsq) F2 (news_allBut (by simp))) (fun fl s3 t => ?_) (fun _ _ e => e.elim))
      intro ht3
      have fin : Turn s h₀ env.locals (allBut h₀ (env.locals :: ch) h2) (J (i + 1)) s3 → ∃ m, m < n + 1 - i ∧ ∃ i h tk m', m = n + 1 - i ∧ i ≤ n ∧ s3 = { s with heap := h, toks := tk } ∧ s.toks ≤ tk ∧ St i h ∧ J i h m' ∧ Fr h₀ env.locals h m' := by
        rintro ⟨h3, tk3, m3, news3, rfl, F3, N3, hs3, j3⟩
        exact ⟨n + 1 - (i + 1), by omega, i + 1, h3, tk3, m3, rfl, hin, rfl, ht3, keep _ _ _ hst2 (fun b o hb hc e => stay_of F2 F3 N3 hs3 b o (fun q => (List.mem_cons.mp q).elim hb hc) e), j3, F3⟩
      cases fl with
      | next => exact fin t
      | cont => exact fin t
      | brk => exact t
      | ret v => exact t
    · cases r with
      | none => exact h1.elim
      | some v => exact wpAny_mono h1 (fun _ s2 h2 => wpAny_mono h2 (fun _ s3 h3 => wpAny_mono h3 (fun _ _ q => q) (fun _ _ e => e.elim)) (fun _ _ e => e.elim)) (fun _ _ e => e.elim)
  · obtain rfl : i = n := by omega
    refine wpAny_mono (last h tk m' hs F' (fun s3 => wpAny (model prog w) A (execs orelse env) Q (fun _ _ => False) s3) (fun h2 tk2 hsq F2 => done h2 tk2 m' (st _ _ _ _ hj hsq) F2)) (fun r s1 h1 => ?_) (fun _ _ e => e.elim)
    cases r with
    | none => exact wpAny_mono h1 (fun _ _ q => q) (fun _ _ e => e.elim)
    | some v => exact h1.elim
theorem fr_but {h h' : Heap} {L I : Addr} {m : Str → Option Value} (F : Fr h₀ L h m) (hI : h₀.get? I = none) (hLI : L ≠ I) (k : ∀ b o, b ≠ I → h.get? b = some o → h'.get? b = some o) : Fr h₀ L h' m := by
  obtain ⟨oL, e1, e2, hL, e3⟩ := F.ns
  exact ⟨⟨oL, e1, e2, k _ _ hLI hL, e3⟩, fun b o e => k b o (fun q => by rw [q, hI] at e; cases e) (F.keep b o e), F.above⟩
theorem seq_but {h h' : Heap} {I : Addr} (hI : ∀ o, h.get? I = some o → ¬ isSeq o) (k : ∀ b o, b ≠ I → h.get? b = some o → h'.get? b = some o) : SeqStay h h' :=
  fun b o is e => k b o (fun q => hI o (q ▸ e) is) e
theorem stri_notSeq {h : Heap} {I : Addr} {ty : String} {x : Str} {t : Tok} {i : Nat} (hit : h.IsStrIter I ty x t i) : ∀ o, h.get? I = some o → ¬ isSeq o := by
  obtain ⟨o', h1, _, h3⟩ := hit
  rintro o e ⟨xs, k, q⟩
  rw [h1] at e
  rw [← Option.some.inj e, h3] at q
  cases q
theorem strIter_fr {h : Heap} {I : Addr} {ty : String} {x : Str} {t : Tok} {i : Nat} {L : Addr} {m : Str → Option Value} (hit : h.IsStrIter I ty x t i) (F : Fr h₀ L h m) : L ≠ I := by
  obtain ⟨o', h1, _, h3⟩ := hit
  obtain ⟨oL, es, ep, hL, hd, _⟩ := F.ns
  rintro rfl
  rw [h1] at hL
  rw [← Option.some.inj hL, h3] at hd
  cases hd
/-- a for over a text's signs -/
theorem for_str {hp : Heap} {tk0 : Nat} {x : Str} {px : Pos} {body : List Stmt} {Q : Flow → Shared → Prop} {xt : Str} {t : Tok} {m : Str → Option Value} (ch : List Addr) (J : Nat → Heap → (Str → Option Value) → Prop)
    (hh : A.handled = none) (hx : env.kindOf x = some .local) (hk : env.scope.kind = .function)
    (st : ∀ i h h' m, J i h m → Stay hp.objs.size env.locals h h' → J i h' m) (hch : ∀ b ∈ ch, b < hp.objs.size) (F : Fr h₀ env.locals hp m) (hJ : J 0 hp m)
    (turn : ∀ i c u h tk m W, W = allBut h₀ (env.locals :: ch) h → xt.cps[i]? = some c → tk0 ≤ u → u < tk → J i h m → Fr h₀ env.locals h (fun y => if y = x then some (.str (sg c) u) else m y) → News h₀ env.locals h W →
      wpAny (model prog w) A (execs body env) (TurnF s h₀ env.locals W (J (i + 1)) Q) (fun _ _ => False) { s with heap := h, toks := tk })
    (done : ∀ h tk m, J xt.cps.size h m → Fr h₀ env.locals h m → Q .next { s with heap := h, toks := tk }) :
    wpAny (model prog w) A (pyIter (.str xt t)) (fun it s₂ => codeAny (model prog w) A (.forLoop (.Name x px) it body [] env) (fun r s' => match r with | .ok f => Q f s' | .error e => cameBackBy (model prog w) A env (fun _ _ => False) e s') s₂) (fun _ _ => False) { s with heap := hp, toks := tk0 } := by
  have nx : ∀ (I : Addr) (ty : String) (hI : h₀.get? I = none) (hN : hp.objs.size ≤ I)
      (nxt : ∀ (s : Shared) (i c : Nat) (Q : Option Value → Shared → Prop), s.heap.IsStrIter I ty xt t i → xt.cps[i]? = some c → (∀ h', h'.IsStrIter I ty xt t (i + 1) → Heap.SameBut I s.heap h' → Q (some (.str ⟨#[c]⟩ s.toks)) { s with heap := h', toks := s.toks + 1 }) → wpAny (model prog w) A (pyNext (.ref I)) Q (fun _ _ => False) s)
      (fin : ∀ (s : Shared) (i : Nat) (Q : Option Value → Shared → Prop), s.heap.IsStrIter I ty xt t i → xt.cps[i]? = none → (∀ h', Heap.ExtBut I s.heap h' → Q none { s with heap := h' }) → wpAny (model prog w) A (pyNext (.ref I)) Q (fun _ _ => False) s)
      (h1 : Heap) (F1 : Fr h₀ env.locals h1 m) (hst : h1.IsStrIter I ty xt t 0) (hj1 : J 0 h1 m),
      codeAny (model prog w) A (.forLoop (.Name x px) (.ref I) body [] env) (fun r s' => match r with | .ok f => Q f s' | .error e => cameBackBy (model prog w) A env (fun _ _ => False) e s') { s with heap := h1, toks := tk0 } := by
    intro I ty hI hN nxt fin h1 F1 hst hj1
    refine forG (N := hp.objs.size) (ch := ch) (s := { s with heap := h1, toks := tk0 }) (n := xt.cps.size) (St := fun i h => h.IsStrIter I ty xt t i) (V := fun i a b m m' => ∃ c, xt.cps[i]? = some c ∧ a < b ∧ m' = fun y => if y = x then some (.str (sg c) a) else m y) J ?_ ?_ ?_ st hst F1 hj1 ?_ ?_ ?_
    · intro i h tk m1 hi hit F2 G hG
      have hLI := strIter_fr hit F2
      have hx' : xt.cps[i]? = some xt.cps[i] := Array.getElem?_eq_getElem hi
      refine nxt { s with heap := h, toks := tk } i _ _ hit hx' fun h' hit' hs' => ?_
      have F3 : Fr h₀ env.locals h' m1 := fr_but F2 hI hLI fun b o q e => hs'.extBut b o q e
      refine wpAny_of_eq (show letOwnedTupleGo (.Name x px) (.ref I) _ = pure () by rfl) (wpAny_assign_Name (wpAny_storeName_local hx F3.ns (fun h4 hn4 hs4 => ?_) (by rw [hk]; rfl)))
      have F4 : Fr h₀ env.locals h4 (fun y => if y = x then some (.str (sg xt.cps[i]) tk) else m1 y) := F3.set hn4 hs4
      have S1 : Stay hp.objs.size env.locals h h' := ⟨seq_but (stri_notSeq hit) fun b o q e => hs'.extBut b o q e, fun b o q _ e => hs'.extBut b o (Nat.ne_of_lt (Nat.lt_of_lt_of_le q hN)) e⟩
      have S2 : Stay hp.objs.size env.locals h' h4 := ⟨fun b o is e => (hs4.2 b fun hb => Mine.Fr.notSeq F3 (by rw [← hb]; exact e) is).trans e, fun b o _ q e => (hs4.2 b q).trans e⟩
      exact hG h4 _ _ ⟨_, hx', by show tk < tk + 1 + 1; omega, rfl⟩ (S1.trans S2) (hit'.extBut hs4.extBut (Ne.symm hLI)) F4
    · intro h tk m1 hit F2 G hG
      have hLI := strIter_fr hit F2
      refine fin { s with heap := h, toks := tk } _ _ hit (Array.getElem?_eq_none (Nat.le_refl _)) fun h' hs' => ?_
      exact hG h' tk ⟨seq_but (stri_notSeq hit) fun b o q e => hs' b o q e, fun b o q _ e => hs' b o (Nat.ne_of_lt (Nat.lt_of_lt_of_le q hN)) e⟩ (fr_but F2 hI hLI fun b o q e => hs' b o q e)
    · rintro i h h' hit k
      by_cases q : I = env.locals
      · obtain ⟨oL, es, ep, hL, hd, _⟩ := F1.ns
        obtain ⟨o0, h10, _, h30⟩ := hst
        rw [q, hL] at h10
        rw [← Option.some.inj h10, hd] at h30
        cases h30
      · obtain ⟨o', a1, a2, a3⟩ := hit
        exact ⟨o', k _ _ q (fun r => Nat.lt_irrefl _ (Nat.lt_of_lt_of_le (hch _ r) hN)) a1, a2, a3⟩
    · rintro i h tk tk1 m1 m2 hi ht ⟨c, hc, hlt, rfl⟩ hj F2 N2
      exact turn i c tk1 h _ m1 _ rfl hc ht hlt hj F2 N2
    · rintro i a b m1 m2 ⟨c, _, q, _⟩
      exact Nat.le_of_lt q
    · intro h tk m1 hj F2
      exact wpAny_execs_nil (done h tk m1 hj F2)
  have fresh : h₀.get? hp.objs.size = none := Fr.fresh F
  have push : ∀ o : Obj, Fr h₀ env.locals (hp.push o) m := fun o => F.push o
  have sq : ∀ o : Obj, Stay hp.objs.size env.locals hp (hp.push o) := fun o => Stay.of fun b p e => Heap.get?_push_of_some _ e
  cases ha : xt.cps.all (· < 128)
  · exact wpAny_pyIter_wide ha (nx _ "str_iterator" fresh (Nat.le_refl _) (fun s i c Q h e k => wpAny_pyNext_wide_item h e k) (fun s i Q h e k => wpAny_pyNext_wide_end hh h e k) _ (push _) ⟨_, Heap.get?_push_size _ rfl, rfl, rfl⟩ (st _ _ _ _ hJ (sq _)))
  · exact wpAny_pyIter_ascii ha (nx _ "str_ascii_iterator" fresh (Nat.le_refl _) (fun s i c Q h e k => wpAny_pyNext_ascii_item h e k) (fun s i Q h e k => wpAny_pyNext_ascii_end hh h e k) _ (push _) ⟨_, Heap.get?_push_size _ rfl, rfl, rfl⟩ (st _ _ _ _ hJ (sq _)))
end
section
variable {prog : Program} {w : World} {A : Around} {s : Shared} {E : Value → Shared → Prop}
/-- enumerate's next pair, over a text: the sign's token is the state's own -/
theorem pyNext_enumS {e it : Addr} {ty : String} {xt : Str} {t : Tok} {i c : Nat} {old : Value} {Q : Option Value → Shared → Prop}
    (he : IsEnum s.heap e it i old) (hit : s.heap.IsStrIter it ty xt t i) (hne : e ≠ it)
    (nxt : ∀ (s : Shared) (Q E : Value → Shared → Prop), s.heap.IsStrIter it ty xt t i → (∀ h', h'.IsStrIter it ty xt t (i + 1) → Heap.SameBut it s.heap h' → Q (.str ⟨#[c]⟩ s.toks) { s with heap := h', toks := s.toks + 1 }) →
      wpAny (model prog w) A.in1 (Builtin.SmallTypes.nextOf (.ref it)) Q E s)
    (hQ : ∀ h', IsEnumOut h' e it ((i : Int) + 1) (.str ⟨#[c]⟩ s.toks) s.heap.objs.size → h'.IsStrIter it ty xt t (i + 1) →
      h'.get? s.heap.objs.size = some { cls := .type "tuple", data := .seq #[.int i (s.toks + 1), .str ⟨#[c]⟩ s.toks] } →
      (∀ b o, b ≠ e → b ≠ it → s.heap.get? b = some o → h'.get? b = some o) → Q (some (.ref s.heap.objs.size)) { s with heap := h', toks := s.toks + 2 }) :
    wpAny (model prog w) A (pyNext (.ref e)) Q E s := by
  have hT : s.TypeIs (.ref e) "enumerate" := ⟨_, he, rfl⟩
  unfold pyNext
  refine wpAny_bind (wpAny_attempt (wpAny_callSpecial?_slot (name := Str.ofString "__next__") hT F.slot_enumerate_next
    (wpAny_call_entry F.slot_enumerate_next hT F.entry_enumerate_next ?_ (F.args_enumerate_next_1 _))))
  obtain ⟨hp, g, d, tk₀, os⟩ := s
  have live : ∀ {h h' : Heap}, h.IsStrIter it ty xt t (i + 1) → Heap.SameBut e h h' → h'.IsStrIter it ty xt t (i + 1) := fun x k => x.extBut k.extBut (Ne.symm hne)
  show wpAny _ _ (field (.ref e) 2 >>= _) _ _ _
  refine wpAny_bind (wpAny_field he rfl (x := .ref it) rfl ?_)
  refine wpAny_bind (nxt _ _ _ hit fun h₁ hit₁ hs₁ => ?_)
  replace hs₁ : Heap.SameBut it hp h₁ := hs₁
  have he₁ : IsEnum h₁ e it i old := (hs₁.2 e hne).trans he
  show wpAny _ _ (field (.ref e) 3 >>= _) _ _ ⟨h₁, g, d, tk₀ + 1, os⟩
  refine wpAny_bind (wpAny_field he₁ rfl (x := rawInt i) rfl ?_)
  show wpAny _ _ (field (.ref e) 4 >>= _) _ _ ⟨h₁, g, d, tk₀ + 1, os⟩
  refine wpAny_bind (wpAny_field he₁ rfl (x := .none) rfl ?_)
  show wpAny _ _ (mkInt i >>= _) _ _ ⟨h₁, g, d, tk₀ + 1, os⟩
  refine wpAny_bind (wpAny_mkInt ?_)
  show wpAny _ _ (setField (.ref e) 3 (rawInt ((i : Int) + 1)) >>= _) _ _ ⟨h₁, g, d, tk₀ + 2, os⟩
  refine wpAny_bind (wpAny_setField_rec he₁ (by simp) fun h₂ he₂ hs₂ => ?_)
  replace hs₂ : Heap.SameBut e h₁ h₂ := hs₂
  replace he₂ : IsEnum h₂ e it ((i : Int) + 1) old := he₂
  show wpAny _ _ (setField (.ref e) 4 .none >>= _) _ _ ⟨h₂, g, d, tk₀ + 2, os⟩
  refine wpAny_bind (wpAny_setField_rec he₂ (by simp) fun h₃ he₃ hs₃ => ?_)
  replace hs₃ : Heap.SameBut e h₂ h₃ := hs₃
  replace he₃ : IsEnum h₃ e it ((i : Int) + 1) old := he₃
  have hit₃ := live (live hit₁ hs₂) hs₃
  have hz : h₃.objs.size = hp.objs.size := by rw [hs₃.1, hs₂.1, hs₁.1]
  have hel : e < hp.objs.size := Heap.lt_size he
  have hk₃ : ∀ b o, b ≠ e → b ≠ it → hp.get? b = some o → h₃.get? b = some o := fun b o q r y => hs₃.extBut b o q (hs₂.extBut b o q (hs₁.extBut b o r y))
  clear he₁ he₂ hit₁ hs₁ hs₂ hs₃
  show wpAny _ _ (newTuple [.int i (tk₀ + 1), .str ⟨#[c]⟩ tk₀] >>= _) _ _ ⟨h₃, g, d, tk₀ + 2, os⟩
  refine wpAny_bind (wpAny_newTuple ?_)
  have he₄ := Heap.get?_push_of_some { cls := .type "tuple", data := .seq #[.int i (tk₀ + 1), .str ⟨#[c]⟩ tk₀] } he₃
  have ht₄ : (h₃.push { cls := .type "tuple", data := .seq #[.int i (tk₀ + 1), .str ⟨#[c]⟩ tk₀] }).get? hp.objs.size = some { cls := .type "tuple", data := .seq #[.int i (tk₀ + 1), .str ⟨#[c]⟩ tk₀] } := hz ▸ Heap.get?_push_size _ rfl
  have hit₄ : (h₃.push { cls := .type "tuple", data := .seq #[.int i (tk₀ + 1), .str ⟨#[c]⟩ tk₀] }).IsStrIter it ty xt t (i + 1) := by
    obtain ⟨o, ho, r⟩ := hit₃
    exact ⟨o, Heap.get?_push_of_some _ ho, r⟩
  have hk₄ : ∀ b o, b ≠ e → b ≠ it → hp.get? b = some o → (h₃.push { cls := .type "tuple", data := .seq #[.int i (tk₀ + 1), .str ⟨#[c]⟩ tk₀] }).get? b = some o := fun b o q r y => Heap.get?_push_of_some _ (hk₃ b o q r y)
  generalize h₃.push { cls := .type "tuple", data := .seq #[.int i (tk₀ + 1), .str ⟨#[c]⟩ tk₀] } = h₄ at he₄ ht₄ hit₄ hk₄ ⊢
  show wpAny _ _ (Builtin.SmallTypes.ownedTupleIsFree (.ref e) >>= _) _ _ ⟨h₄, g, d, tk₀ + 2, os⟩
  rw [hz]
  refine wpAny_bind ?_
  unfold Builtin.SmallTypes.ownedTupleIsFree
  refine wpAny_bind (wpAny_field he₄ rfl (x := .none) rfl (wpAny_pure ?_))
  simp only [if_true]
  refine wpAny_bind (wpAny_rule ?_)
  refine wpAny_bind (wpAny_field he₄ rfl (x := old) rfl ?_)
  refine wpAny_bind (wpAny_setField_rec he₄ (by simp) fun h₅ he₅ hs₅ => ?_)
  replace hs₅ : Heap.SameBut e h₄ h₅ := hs₅
  replace he₅ : IsEnum h₅ e it ((i : Int) + 1) (.str ⟨#[c]⟩ tk₀) := he₅
  show wpAny _ _ (Builtin.SmallTypes.ownedTupleHandOut (.ref e) (.ref hp.objs.size) >>= _) _ _ ⟨h₅, g, d, tk₀ + 2, os⟩
  refine wpAny_bind ?_
  unfold Builtin.SmallTypes.ownedTupleHandOut
  refine wpAny_bind (wpAny_setField_rec he₅ (by simp) fun h₆ he₆ hs₆ => ?_)
  replace hs₆ : Heap.SameBut e h₅ h₆ := hs₆
  replace he₆ : IsEnumOut h₆ e it ((i : Int) + 1) (.str ⟨#[c]⟩ tk₀) hp.objs.size := he₆
  refine wpAny_setField_rec he₆ (by simp) fun h₇ he₇ hs₇ => ?_
  replace hs₇ : Heap.SameBut e h₆ h₇ := hs₇
  replace he₇ : IsEnumOut h₇ e it ((i : Int) + 1) (.str ⟨#[c]⟩ tk₀) hp.objs.size := he₇
  exact wpAny_bind (wpAny_letGo (wpAny_pure ⟨_, rfl, wpAny_pure (hQ h₇ he₇ (live (live (live hit₄ hs₅) hs₆) hs₇)
    (hs₇.extBut _ _ (Nat.ne_of_gt hel) (hs₆.extBut _ _ (Nat.ne_of_gt hel) (hs₅.extBut _ _ (Nat.ne_of_gt hel) ht₄)))
    fun b o q r y => hs₇.extBut b o q (hs₆.extBut b o q (hs₅.extBut b o q (hk₄ b o q r y))))⟩))
end
section
variable {prog : Program} {w : World} {A : Around} {s : Shared} {env : Env} {h₀ : Heap}
theorem enum_notSeq {h : Heap} {e it : Addr} {i : Int} {old : Value} (he : IsEnum h e it i old) : ∀ o, h.get? e = some o → ¬ isSeq o := by
  rintro o g ⟨xs, k, q⟩
  rw [he] at g
  rw [← Option.some.inj g] at q
  cases q
theorem enumO_notSeq {h : Heap} {e it : Addr} {i : Int} {v : Value} {T : Addr} (he : IsEnumOut h e it i v T) : ∀ o, h.get? e = some o → ¬ isSeq o := by
  rintro o g ⟨xs, k, q⟩
  rw [he] at g
  rw [← Option.some.inj g] at q
  cases q
theorem enum_ne {h : Heap} {e it : Addr} {i : Int} {old : Value} {L : Addr} {m : Str → Option Value} (he : IsEnum h e it i old) (F : Fr h₀ L h m) : L ≠ e := by
  obtain ⟨oL, es, ep, hL, hd, _⟩ := F.ns
  rintro rfl
  rw [he] at hL
  rw [← Option.some.inj hL] at hd
  cases hd
theorem forE {xi xv : Str} {pi pv pt : Pos} {x1} {body orelse : List Stmt} {Q : Flow → Shared → Prop} {e it : Addr} {n : Nat} {Src : Nat → Heap → Prop} (P : Nat → Nat → Value → Prop) {m : Str → Option Value} {N : Nat} (ch : List Addr) (J : Nat → Heap → (Str → Option Value) → Prop)
    (nx : ∀ i (s : Shared) old, i < n → IsEnum s.heap e it i old → Src i s.heap → ∀ (G : Option Value → Shared → Prop), (∀ h' v ti tk', P i s.toks v → s.toks < tk' → IsEnumOut h' e it ((i : Int) + 1) v s.heap.objs.size → Src (i + 1) h' →
      h'.get? s.heap.objs.size = some { cls := .type "tuple", data := .seq #[.int i ti, v] } → (∀ b o, b ≠ e → b ≠ it → s.heap.get? b = some o → h'.get? b = some o) → G (some (.ref s.heap.objs.size)) { s with heap := h', toks := tk' }) →
      wpAny (model prog w) A (pyNext (.ref e)) G (fun _ _ => False) s)
    (fin : ∀ (s : Shared) old, IsEnum s.heap e it n old → Src n s.heap → ∀ (G : Option Value → Shared → Prop), (∀ h', (∀ b o, b ≠ it → s.heap.get? b = some o → h'.get? b = some o) → G none { s with heap := h' }) → wpAny (model prog w) A (pyNext (.ref e)) G (fun _ _ => False) s)
    (frame : ∀ i h h', Src i h → (∀ b o, b ≠ e → b ≠ env.locals → b ∉ ch → h.get? b = some o → h'.get? b = some o) → Src i h')
    (ns : ∀ i h o, Src i h → h.get? it = some o → ¬ isSeq o) (hLi : env.locals ≠ it) (heN : N ≤ e) (hiN : N ≤ it) (hch : e ∉ ch) (he0 : h₀.get? e = none) (hi0 : h₀.get? it = none)
    (hh : A.handled = none) (hxi : env.kindOf xi = some .local) (hxv : env.kindOf xv = some .local) (hk : env.scope.kind = .function)
    (st : ∀ i h h' m, J i h m → Stay N env.locals h h' → J i h' m) (F : Fr h₀ env.locals s.heap m) (hJ : J 0 s.heap m) (he : ∃ old, IsEnum s.heap e it (0 : Nat) old) (hS : Src 0 s.heap)
    (turn : ∀ i v ti h tk0 tk m, i < n → P i tk0 v → s.toks ≤ tk0 → tk0 < tk → J i h m → Fr h₀ env.locals h (fun y => if y = xv then some v else if y = xi then some (.int i ti) else m y) → News h₀ env.locals h (allBut h₀ (env.locals :: ch) h) →
      wpAny (model prog w) A (execs body env) (TurnF s h₀ env.locals (allBut h₀ (env.locals :: ch) h) (J (i + 1)) Q) (fun _ _ => False) { s with heap := h, toks := tk })
    (done : ∀ h tk m, J n h m → Fr h₀ env.locals h m → wpAny (model prog w) A (execs orelse env) Q (fun _ _ => False) { s with heap := h, toks := tk }) :
    codeAny (model prog w) A (.forLoop (.Tuple [.Name xi pi, .Name xv pv] x1 pt) (.ref e) body orelse env) (fun r s' => match r with | .ok f => Q f s' | .error e => cameBackBy (model prog w) A env (fun _ _ => False) e s') s := by
  refine forG (N := N) (ch := ch) (n := n) (St := fun i h => (∃ old, IsEnum h e it (i : Nat) old) ∧ Src i h) (V := fun i a b m m' => ∃ v ti, P i a v ∧ a < b ∧ m' = fun y => if y = xv then some v else if y = xi then some (.int i ti) else m y) J ?_ ?_ ?_ st ⟨he, hS⟩ F hJ ?_ ?_ done
  · rintro i h tk m1 hi ⟨⟨old, he1⟩, hs1⟩ F1 G hG
    have hLe := enum_ne he1 F1
    have hLh : env.locals < h.objs.size := F1.ns.lt
    have heh : e < h.objs.size := Heap.lt_size he1
    refine nx i { s with heap := h, toks := tk } old hi he1 hs1 _ fun h' v ti tk' hP hlt ho hs' hT hk1 => ?_
    have F2 : Fr h₀ env.locals h' m1 := by
      obtain ⟨oL, e1, e2, hL, e3⟩ := F1.ns
      exact ⟨⟨oL, e1, e2, hk1 _ _ hLe hLi hL, e3⟩, fun b o q => hk1 b o (fun r => by rw [r, he0] at q; cases q) (fun r => by rw [r, hi0] at q; cases q) (F1.keep b o q), F1.above⟩
    have S1 : Stay N env.locals h h' := ⟨fun b o is q => hk1 b o (fun r => enum_notSeq he1 o (r ▸ q) is) (fun r => ns _ _ _ hs1 (r ▸ q) is) q, fun b o q _ y => hk1 b o (Nat.ne_of_lt (Nat.lt_of_lt_of_le q heN)) (Nat.ne_of_lt (Nat.lt_of_lt_of_le q hiN)) y⟩
    refine wpAny_letOwnedTupleGo_enum ho fun h2 he2 hs2 => ?_
    replace hs2 : Heap.SameBut e h' h2 := hs2
    have F3 : Fr h₀ env.locals h2 m1 := fr_but F2 he0 hLe fun b o q y => hs2.extBut b o q y
    have S2 : Stay N env.locals h' h2 := ⟨seq_but (enumO_notSeq ho) fun b o q y => hs2.extBut b o q y, fun b o q _ y => hs2.extBut b o (Nat.ne_of_lt (Nat.lt_of_lt_of_le q heN)) y⟩
    have hs3 : Src (i + 1) h2 := frame _ _ _ hs' fun b o q _ _ y => hs2.extBut b o q y
    have hT2 : h2.IsTuple h.objs.size #[.int i ti, v] := ⟨_, hs2.extBut _ _ (Nat.ne_of_gt heh) hT, rfl, _, rfl⟩
    refine wpAny_assign_Tuple hh hT2 rfl rfl fun h3 hx3 => ?_
    replace hx3 : Heap.ExtBut h2.objs.size h2 h3 := hx3
    have k3 : ∀ b o, h2.get? b = some o → h3.get? b = some o := fun b o y => hx3 b o (Nat.ne_of_lt (Heap.lt_size y)) y
    have F4 : Fr h₀ env.locals h3 m1 := F3.keeps k3
    show wpAny _ A (do holding [v] (assign (.Name xi pi) env (.int i ti)); do holding [] (assign (.Name xv pv) env v); pure ()) _ _ _
    refine wpAny_bind (wpAny_holding (wpAny_assign_Name (wpAny_storeName_local hxi F4.ns (fun h4 hn4 hs4 => ?_) (by rw [hk]; rfl))))
    replace hs4 : Heap.SameBut env.locals h3 h4 := hs4
    have F5 := F4.set hn4 hs4
    refine wpAny_bind (wpAny_holding (wpAny_assign_Name (wpAny_storeName_local hxv F5.ns (fun h5 hn5 hs5 => wpAny_pure ?_) (by rw [hk]; rfl))))
    replace hs5 : Heap.SameBut env.locals h4 h5 := hs5
    have F6 := F5.set hn5 hs5
    have S4 : Stay N env.locals h3 h4 := ⟨fun b o is q => (hs4.2 b fun hb => Mine.Fr.notSeq F4 (by rw [← hb]; exact q) is).trans q, fun b o _ q y => (hs4.2 b q).trans y⟩
    have S5 : Stay N env.locals h4 h5 := ⟨fun b o is q => (hs5.2 b fun hb => Mine.Fr.notSeq F5 (by rw [← hb]; exact q) is).trans q, fun b o _ q y => (hs5.2 b q).trans y⟩
    have up : ∀ b o, b ≠ env.locals → h2.get? b = some o → h5.get? b = some o := fun b o q y => hs5.extBut b o q (hs4.extBut b o q (k3 b o y))
    refine hG h5 _ _ ⟨v, ti, hP, by show tk < tk' + 1 + 1; have : tk < tk' := hlt; omega, rfl⟩ (((S1.trans S2).trans (Stay.of k3)).trans (S4.trans S5)) ⟨⟨v, ?_⟩, frame _ _ _ hs3 fun b o _ q _ y => up b o q y⟩ F6
    have e1 : ((i + 1 : Nat) : Int) = (i : Int) + 1 := by push_cast; rfl
    rw [e1]
    exact up e _ (Ne.symm hLe) he2
  · rintro h tk m1 ⟨⟨old, he1⟩, hs1⟩ F1 G hG
    refine fin { s with heap := h, toks := tk } old he1 hs1 _ fun h' hk1 => ?_
    exact hG h' tk ⟨seq_but (fun o => ns _ _ o hs1) hk1, fun b o q _ y => hk1 b o (Nat.ne_of_lt (Nat.lt_of_lt_of_le q hiN)) y⟩ (fr_but F1 hi0 hLi hk1)
  · rintro i h h' ⟨⟨old, he1⟩, hs1⟩ k
    have hLe : e ≠ env.locals := by
      obtain ⟨old0, he0'⟩ := he
      exact Ne.symm (enum_ne he0' F)
    exact ⟨⟨old, k _ _ hLe hch he1⟩, frame _ _ _ hs1 fun b o _ q r y => k b o q r y⟩
  · rintro i h tk tk1 m1 m2 hi ht ⟨v, ti, hP, hlt, rfl⟩ hj F2 N2
    exact turn i v ti h tk1 tk m1 hi hP ht hlt hj F2 N2
  · rintro i a b m1 m2 ⟨_, _, _, h, _⟩
    exact Nat.le_of_lt h
/-- for i, v in enumerate(text) -/
theorem for_enumS {hp : Heap} {tk0 : Nat} {xi xv : Str} {pi pv pt : Pos} {x1} {body orelse : List Stmt} {Q : Flow → Shared → Prop} {xt : Str} {t : Tok} {m : Str → Option Value} (ch : List Addr) (J : Nat → Heap → (Str → Option Value) → Prop)
    (hh : A.handled = none) (hxi : env.kindOf xi = some .local) (hxv : env.kindOf xv = some .local) (hk : env.scope.kind = .function)
    (st : ∀ i h h' m, J i h m → Stay hp.objs.size env.locals h h' → J i h' m) (hch : ∀ b ∈ ch, b < hp.objs.size) (F : Fr h₀ env.locals hp m) (hJ : J 0 hp m)
    (turn : ∀ i c u ti h tk m W, W = allBut h₀ (env.locals :: ch) h → xt.cps[i]? = some c → tk0 ≤ u → u < tk → J i h m → Fr h₀ env.locals h (fun y => if y = xv then some (.str (sg c) u) else if y = xi then some (.int i ti) else m y) → News h₀ env.locals h W →
      wpAny (model prog w) A (execs body env) (TurnF s h₀ env.locals W (J (i + 1)) Q) (fun _ _ => False) { s with heap := h, toks := tk })
    (done : ∀ h tk m, J xt.cps.size h m → Fr h₀ env.locals h m → wpAny (model prog w) A (execs orelse env) Q (fun _ _ => False) { s with heap := h, toks := tk }) :
    wpAny (model prog w) A (call (.type "enumerate") [.str xt t]) (fun xe s₁ => wpAny (model prog w) A (pyIter xe) (fun it s₂ => codeAny (model prog w) A (.forLoop (.Tuple [.Name xi pi, .Name xv pv] x1 pt) it body orelse env) (fun r s' => match r with | .ok f => Q f s' | .error e => cameBackBy (model prog w) A env (fun _ _ => False) e s') s₂) (fun _ _ => False) s₁) (fun _ _ => False) { s with heap := hp, toks := tk0 } := by
  refine call_enumerate_str fun h' he hit hsz hk' => ?_
  have he' : IsEnum h' (hp.objs.size + 1) hp.objs.size ((0 : Nat) : Int) .none := he
  refine wpAny_pyIter_enum he ?_
  have F1 : Fr h₀ env.locals h' m := F.keeps hk'
  have hlt : hp.objs.size + 1 < h'.objs.size := by rw [hsz]; exact Nat.lt_succ_self _
  have f0 : h₀.get? hp.objs.size = none := Fr.fresh F
  have f1 : h₀.get? (hp.objs.size + 1) = none := by
    cases q : h₀.get? (hp.objs.size + 1) with
    | none => rfl
    | some o => exact absurd (Heap.lt_size (F.keep _ _ q)) (Nat.not_lt.mpr (Nat.le_succ _))
  refine forE (N := hp.objs.size) (ch := ch) (s := { s with heap := h', toks := tk0 }) (n := xt.cps.size) (it := hp.objs.size) (Src := fun i h => h.IsStrIter hp.objs.size (strIterType xt) xt t i) (fun i a v => ∃ c, xt.cps[i]? = some c ∧ v = .str (sg c) a) J ?_ ?_ ?_ ?_ ?_ (Nat.le_succ _) (Nat.le_refl _) (fun r => Nat.not_lt.mpr (Nat.le_succ _) (hch _ r)) f1 f0 hh hxi hxv hk st F1 (st _ _ _ _ hJ (Stay.of hk')) ⟨_, he'⟩ hit ?_ ?_
  · rintro i s1 old hi he1 hs1 G hG
    have hx' : xt.cps[i]? = some xt.cps[i] := Array.getElem?_eq_getElem hi
    refine pyNext_enumS he1 hs1 (Nat.succ_ne_self _) (c := xt.cps[i]) ?_ fun h2 ho hs2 hT hk2 => hG h2 _ _ _ ⟨_, hx', rfl⟩ (by show s1.toks < s1.toks + 2; omega) ho hs2 hT hk2
    intro s2 Q2 E2 a b
    cases ha : xt.cps.all (· < 128)
    · have e1 : strIterType xt = "str_iterator" := by simp [strIterType, ha]
      rw [e1] at a b
      exact wpAny_nextOf_wide_item a hx' b
    · have e1 : strIterType xt = "str_ascii_iterator" := by simp [strIterType, ha]
      rw [e1] at a b
      exact wpAny_nextOf_ascii_item a hx' b
  · rintro s1 old he1 hs1 G hG
    cases ha : xt.cps.all (· < 128)
    · have e1 : strIterType xt = "str_iterator" := by simp [strIterType, ha]
      rw [e1] at hs1
      exact wpAny_pyNext_enum_endD (Draws.strWide (show A.in1.handled = none from hh) _ xt t) he1 hs1 fun h2 hk2 => hG h2 hk2
    · have e1 : strIterType xt = "str_ascii_iterator" := by simp [strIterType, ha]
      rw [e1] at hs1
      exact wpAny_pyNext_enum_endD (Draws.strAscii (show A.in1.handled = none from hh) _ xt t) he1 hs1 fun h2 hk2 => hG h2 hk2
  · rintro i h h2 ⟨o, ho, r⟩ k
    have hLi : env.locals ≠ hp.objs.size := Nat.ne_of_lt F.ns.lt
    exact ⟨o, k _ _ (Nat.succ_ne_self _).symm (Ne.symm hLi) (fun r => Nat.lt_irrefl _ (hch _ r)) ho, r⟩
  · intro i h o hs1 ho
    exact stri_notSeq hs1 o ho
  · exact Nat.ne_of_lt F.ns.lt
  · rintro i v ti h tka tk m1 hi ⟨c, hc, rfl⟩ hle hlt hj F2 N2
    exact turn i c tka ti h tk m1 _ rfl hc hle hlt hj F2 N2
  · intro h tk m1 hj F2
    exact done h tk m1 hj F2
/-- for i, v in enumerate(list) -/
theorem for_enumL {hp : Heap} {tk0 : Nat} {xi xv : Str} {pi pv pt : Pos} {x1} {body orelse : List Stmt} {Q : Flow → Shared → Prop} {l : Addr} {items : Array Value} {m : Str → Option Value} (ch : List Addr) (J : Nat → Heap → (Str → Option Value) → Prop)
    (hh : A.handled = none) (hxi : env.kindOf xi = some .local) (hxv : env.kindOf xv = some .local) (hk : env.scope.kind = .function) (hl : hp.IsList l items) (hlc : l ∉ ch)
    (st : ∀ i h h' m, J i h m → Stay hp.objs.size env.locals h h' → J i h' m) (hch : ∀ b ∈ ch, b < hp.objs.size) (F : Fr h₀ env.locals hp m) (hJ : J 0 hp m)
    (turn : ∀ i v ti h tk m W, W = allBut h₀ (env.locals :: ch) h → items[i]? = some v → J i h m → Fr h₀ env.locals h (fun y => if y = xv then some v else if y = xi then some (.int i ti) else m y) → News h₀ env.locals h W →
      wpAny (model prog w) A (execs body env) (TurnF s h₀ env.locals W (J (i + 1)) Q) (fun _ _ => False) { s with heap := h, toks := tk })
    (done : ∀ h tk m, J items.size h m → Fr h₀ env.locals h m → wpAny (model prog w) A (execs orelse env) Q (fun _ _ => False) { s with heap := h, toks := tk }) :
    wpAny (model prog w) A (call (.type "enumerate") [.ref l]) (fun xe s₁ => wpAny (model prog w) A (pyIter xe) (fun it s₂ => codeAny (model prog w) A (.forLoop (.Tuple [.Name xi pi, .Name xv pv] x1 pt) it body orelse env) (fun r s' => match r with | .ok f => Q f s' | .error e => cameBackBy (model prog w) A env (fun _ _ => False) e s') s₂) (fun _ _ => False) s₁) (fun _ _ => False) { s with heap := hp, toks := tk0 } := by
  refine call_enumerate_list hl fun h' he hit hsz hk' => ?_
  have he' : IsEnum h' (hp.objs.size + 1) hp.objs.size ((0 : Nat) : Int) .none := he
  refine wpAny_pyIter_enum he ?_
  have F1 : Fr h₀ env.locals h' m := F.keeps hk'
  obtain ⟨ol, hol, _, nl, hdl⟩ := id hl
  have hlt : l < hp.objs.size := Heap.lt_size hol
  have hLl : l ≠ env.locals := fun e => Mine.Fr.notSeq F (by rw [← e]; exact hol) ⟨_, _, hdl⟩
  have hLi : env.locals ≠ hp.objs.size := Nat.ne_of_lt F.ns.lt
  have f0 : h₀.get? hp.objs.size = none := Fr.fresh F
  have f1 : h₀.get? (hp.objs.size + 1) = none := by
    cases q : h₀.get? (hp.objs.size + 1) with
    | none => rfl
    | some o => exact absurd (Heap.lt_size (F.keep _ _ q)) (Nat.not_lt.mpr (Nat.le_succ _))
  have hel : l ≠ hp.objs.size + 1 := Nat.ne_of_lt (Nat.lt_succ_of_lt hlt)
  refine forE (N := hp.objs.size) (ch := ch) (s := { s with heap := h', toks := tk0 }) (n := items.size) (it := hp.objs.size) (Src := fun i h => h.IsListIter hp.objs.size l i ∧ h.IsList l items) (fun i a v => items[i]? = some v) J ?_ ?_ ?_ ?_ hLi (Nat.le_succ _) (Nat.le_refl _) (fun r => Nat.not_lt.mpr (Nat.le_succ _) (hch _ r)) f1 f0 hh hxi hxv hk st F1 (st _ _ _ _ hJ (Stay.of hk')) ⟨_, he'⟩ ⟨hit, hl.at fun o x => hk' _ _ x⟩ ?_ ?_
  · rintro i s1 old hi he1 ⟨hs1, hs2⟩ G hG
    have hx' : items[i]? = some items[i] := Array.getElem?_eq_getElem hi
    exact wpAny_pyNext_enum_item he1 hs1 hs2 hx' (Nat.succ_ne_self _) fun h2 ho hs3 hT _ hk2 => hG h2 _ _ _ hx' (Nat.lt_succ_self _) ho ⟨hs3, hs2.at fun o x => hk2 _ _ hel (Nat.ne_of_lt hlt) x⟩ hT hk2
  · rintro s1 old he1 ⟨hs1, hs2⟩ G hG
    exact wpAny_pyNext_enum_end hh he1 hs1 hs2 (Array.getElem?_eq_none (Nat.le_refl _)) fun h2 hk2 => hG h2 hk2
  · rintro i h h2 ⟨hs1, hs2⟩ k
    exact ⟨hs1.at fun o x => k _ _ (Nat.succ_ne_self _).symm (Ne.symm hLi) (fun r => Nat.lt_irrefl _ (hch _ r)) x, hs2.at fun o x => k _ _ hel hLl hlc x⟩
  · rintro i h o ⟨⟨o', h1, _, h3⟩, _⟩ ho ⟨xs, k, q⟩
    rw [h1] at ho
    rw [← Option.some.inj ho, h3] at q
    cases q
  · rintro i v ti h tka tk m1 hi hP hle hlt hj F2 N2
    exact turn i v ti h tk m1 _ rfl hP hj F2 N2
  · intro h tk m1 hj F2
    exact done h tk m1 hj F2
end
end Mine
/-! part W13 -/
namespace Mine
open PySem PySem.W PyProof.Rows PySem.Calls
theorem fill7 : KK = KK ∧ PySem.Challenge.rw_wf0081_01 = PySem.Challenge.rw_wf0081_01 := by
  k_fill
  exact ⟨rfl, rfl⟩
local macro_rules | `(tactic| walk_at "exec For") => `(tactic| (refine stop_ ?_))
set_option maxHeartbeats 8000000
theorem booked {P : Params} {h : Heap} (X : (KK P).In h) : NoneBooked h := by
  have e := X 2 (boot_o_2 P) (by kernel_rfl)
  exact ⟨fun _ => none, ⟨_, #[], 0, e, rfl, by intro x hx; simp at hx, fun _ => rfl⟩, rfl⟩
theorem is_strs {M : Model} {A : Around} {E : Value → Shared → Prop} {s : Shared} {y z : Str} {u v : Tok} {Q : Value → Shared → Prop}
    (h0 : 0 < u) (h1 : 0 < v) (hne : u ≠ v) (hb : NoneBooked s.heap) (hq : ∀ b, (y ≠ z → b = false) → Q (.bool b) s) : wpAny M A (compareOp .Is (.str y u) (.str z v)) Q E s := by
  show wpAny M A (do return .bool (← isSame.created (y == z) u v)) Q E s
  have a : (u == 0 || v == 0) = false := by
    have a1 : (u == 0) = false := by simpa using Nat.ne_of_gt h0
    have a2 : (v == 0) = false := by simpa using Nat.ne_of_gt h1
    rw [a1, a2]; rfl
  have a3 : (u == v) = false := by simpa using hne
  unfold isSame.created
  rw [a, a3]
  simp only [Bool.false_eq_true, if_false]
  by_cases q : y = z
  · subst q
    simp only [beq_self_eq_true, Bool.not_true, Bool.false_eq_true, if_false]
    refine wpAny_bind (wpAny_bind (wpAny_sharingNotTold_none hb ?_))
    simp only [Bool.false_eq_true, if_false]
    refine wpAny_bind (wpAny_sharingNotTold_none hb ?_)
    simp only [Bool.false_eq_true, if_false]
    exact wpAny_bind (wpAny_rule (wpAny_bind (wpAny_askSetting (wpAny_pure (wpAny_pure (hq _ fun n => absurd rfl n))))))
  · have a4 : (y == z) = false := by simpa using q
    rw [a4]
    simp only [Bool.not_false, if_true]
    exact wpAny_bind (wpAny_pure (wpAny_pure (hq _ fun _ => rfl)))
/-- a contract that asks that n tokens have been drawn -/
noncomputable def DoesN (w : World) (f : Addr) (c n : Nat) (P : Heap → List Value → Prop) (R : Heap → List Value → Heap → Value → Prop) : Prop :=
  ∀ (A : Around) (s : Shared) (vs : List Value) (Q E : Value → Shared → Prop), n ≤ s.toks → At w A c s.heap → P s.heap vs →
    (∀ r h' tk, s.heap.StaysIn h' → R s.heap vs h' r → Q r { s with heap := h', toks := tk }) → wpAny (MM w) A (call (.ref f) vs) Q E s
theorem does_ofN {w : World} {f : Addr} {c n : Nat} {P : Heap → List Value → Prop} {R : Heap → List Value → Heap → Value → Prop} {name : Str} {params : Arguments} {body : List Stmt} {scope : Scope} {pm cd : Value} {binds : List Value → List (Str × Value)}
    (ho : (KK w.params).lookup f = some ⟨.type "function", none, .func (docDef name params body scope pm cd .none), #[]⟩) (hcd : codeIn (KK w.params) cd name = true)
    (hb : ∀ h vs, P h vs → bindArgs (docDef name params body scope pm cd .none) ⟨vs, []⟩ = pure (binds vs) ∧ ((binds vs).all fun x => decide (scope.names.lookup x.1 = some .local)) = true ∧ 0 < (binds vs).length)
    (hbody : ∀ (A : Around) (s : Shared) (vs : List Value) (h₁ : Heap) (tk : Nat) (base : Heap) (outs : List Env) (mean : ExcName → Option Value) (mg mb : Str → Option Value), 0 < tk → n ≤ tk → (∀ h m, Fr s.heap s.heap.objs.size h m → At w (A.deeper (envOf name scope s.heap.objs.size f cd)) c h) → Below A base outs s.heap → (KK w.params).In s.heap → Top qq lq mean mg mb s.heap → P s.heap vs →
      Fr s.heap s.heap.objs.size h₁ (fun x => (binds vs).reverse.lookup x) →
      wpAny (MM w) (A.deeper (envOf name scope s.heap.objs.size f cd)) (execs body (envOf name scope s.heap.objs.size f cd))
        (Fin1 s s.heap.objs.size (R s.heap vs)) (fun _ _ => False) { s with heap := h₁, toks := tk })
    (hco : scope.isCoroutine = false) (hgen : scope.isGenerator = false) (hk : scope.kind = .function) (hcell : ∀ x ∈ scope.names, x.2 ≠ .cell) :
    DoesN w f (c + 1) n P R := by
  intro A s vs Q E hn C hP ret
  obtain ⟨a1, a2, a3, ⟨base, outs, B⟩, X, mn, mg, mb, T⟩ := C
  obtain ⟨b1, b2, b3⟩ := hb s.heap vs hP
  refine wpAny_call (call_plain (o := ⟨.type "function", none, .func (docDef name params body scope pm cd .none), #[]⟩) (name := name) (params := params) (body := body) (scope := scope) (pm := pm) (cd := cd) (doc := .none) (by omega) (X _ _ ho) rfl T.nolimit (codeRec_of X hcd) b1 (locs b2) (fun h₁ F => ?_) hco hgen hk hcell)
  have C' : ∀ h m, Fr s.heap s.heap.objs.size h m → At w (A.deeper (envOf name scope s.heap.objs.size f cd)) c h := fun h m F =>
    ⟨a1, by show A.depth + 1 + c < _; omega, by show A.units + 3 + 8 * c < _; omega, ⟨_, _, B.push F hk⟩, X.keeps F.keep, mn, mg, mb, T.keeps F.keep⟩
  refine wpAny_mono (hbody A s vs h₁ _ base outs mn mg mb (by omega) (by omega) C' B X T hP F) (fun fl s' x => ?_) (fun _ _ x => x.elim)
  obtain ⟨v, h', tk', m', rfl, rfl, F', r⟩ := x
  exact ret v h' tk' F'.keep r
/-- a call, from a frame, the state short; tokens only grow -/
theorem use_st {w : World} {A : Around} {f : Addr} {c c' : Nat} {P : Heap → List Value → Prop} {R : Heap → List Value → Heap → Value → Prop} {h₀ : Heap} {L : Addr} {m : Str → Option Value} {news : List (Addr × Obj)} {s : Shared} {hp : Heap} {tk : Nat} {vs : List Value} {Q : Value → Shared → Prop}
    (D : Does w f c P R) (C : ∀ h m, Fr h₀ L h m → At w A c' h) (hc : c ≤ c') (F : Fr h₀ L hp m) (N : News h₀ L hp news) (hP : P hp vs)
    (k : ∀ r h' tk', tk ≤ tk' → Fr h₀ L h' m → News h₀ L h' news → hp.StaysIn h' → R hp vs h' r → Q r { s with heap := h', toks := tk' }) : wpAny (MM w) A (call (.ref f) vs) Q (fun _ _ => False) { s with heap := hp, toks := tk } := by
  have hle : tk ≤ ({ s with heap := hp, toks := tk } : Shared).toks := Nat.le_refl _
  refine wpAny_with_toks hle (wpAny_mono (use_does (s := { s with heap := hp, toks := tk }) (E := fun _ _ => False) D C hc F N hP (Q := fun r s' => tk ≤ s'.toks → Q r s') fun r h' tk' F' N' st hR hk => k r h' tk' hk F' N' st hR) (fun _ _ q => q) (fun _ _ e => e.elim))
theorem use_sn {w : World} {A : Around} {f : Addr} {c c' n : Nat} {P : Heap → List Value → Prop} {R : Heap → List Value → Heap → Value → Prop} {h₀ : Heap} {L : Addr} {m : Str → Option Value} {news : List (Addr × Obj)} {s : Shared} {hp : Heap} {tk : Nat} {vs : List Value} {Q : Value → Shared → Prop}
    (D : DoesN w f c n P R) (hn : n ≤ tk) (C : ∀ h m, Fr h₀ L h m → At w A c' h) (hc : c ≤ c') (F : Fr h₀ L hp m) (N : News h₀ L hp news) (hP : P hp vs)
    (k : ∀ r h' tk', tk ≤ tk' → Fr h₀ L h' m → News h₀ L h' news → hp.StaysIn h' → R hp vs h' r → Q r { s with heap := h', toks := tk' }) : wpAny (MM w) A (call (.ref f) vs) Q (fun _ _ => False) { s with heap := hp, toks := tk } := by
  have hle : tk ≤ ({ s with heap := hp, toks := tk } : Shared).toks := Nat.le_refl _
  refine wpAny_with_toks hle (wpAny_mono (D A { s with heap := hp, toks := tk } vs (fun r s' => tk ≤ s'.toks → Q r s') (fun _ _ => False) hn ((C _ _ F).le hc) hP fun r h' tk' st hR hk => k r h' tk' hk ?_ ?_ st hR) (fun _ _ q => q) (fun _ _ e => e.elim))
  · obtain ⟨oL, e1, e2, hL, e3⟩ := F.ns
    exact ⟨⟨oL, e1, e2, st _ _ hL, e3⟩, fun b o e => st _ _ (F.keep b o e), F.above⟩
  · exact fun p hp => ⟨st _ _ (N p hp).1, (N p hp).2⟩
noncomputable def Le.cp : Le → Nat
  | .i => 105 | .k => 107 | .b => 98 | .c => 99
theorem le_sg (x : Le) : x.str = sg x.cp := by cases x <;> decide
noncomputable def Le.ix : Le → Nat
  | .i => 0 | .k => 1 | .b => 2 | .c => 3
theorem ikbc_at {i c : Nat} (h : (Str.ofString "ikbc").cps[i]? = some c) : ∃ x : Le, x.ix = i ∧ x.cp = c := by
  have e : (Str.ofString "ikbc").cps = #[105, 107, 98, 99] := by decide
  rw [e] at h
  match i, h with
  | 0, h => exact ⟨.i, rfl, Option.some.inj h⟩
  | 1, h => exact ⟨.k, rfl, Option.some.inj h⟩
  | 2, h => exact ⟨.b, rfl, Option.some.inj h⟩
  | 3, h => exact ⟨.c, rfl, Option.some.inj h⟩
  | n + 4, h => simp at h
theorem sg_inj {a b : Nat} (h : sg a = sg b) : a = b := by
  have : (sg a).cps[0]? = (sg b).cps[0]? := by rw [h]
  simpa [sg] using this
theorem does_contains (w : World) (c : Nat) (t : Tok) : Does w 49 4 (fun _ vs => vs = [.ref 128, .str (sg c) t]) (fun _ _ _ r => ∃ b, r = .bool b ∧ (c = 64 → b = true) ∧ (∀ x : Le, c = x.cp → b = false)) := by
  refine does_of (binds := fun vs => (["a", "b"] : List Str).zip vs) (look_contains _) (by kernel_rfl) ?_ ?_ (by kernel_rfl) (by kernel_rfl) (by kernel_rfl) (by decide +kernel)
  · rintro h _ rfl
    exact ⟨by kernel_rfl, by kernel_rfl⟩
  · rintro A s _ h₁ tk base outs mean mg mb C B X T rfl F
    w_on
    have N : News s.heap s.heap.objs.size h₁ [] := News.nil
    k_steps
    refine Fin1.intro F ⟨_, rfl, ?_, ?_⟩
    · rintro rfl; decide +kernel
    · rintro x rfl
      cases x <;> decide +kernel
theorem does_getitem (w : World) (t : Tok) : Does w 56 4 (fun _ vs => vs = [.ref 128, .str (sg 64) t]) (fun _ _ _ r => ∃ t, r = .int 49 t) := by
  refine does_of (binds := fun vs => (["a", "b"] : List Str).zip vs) (look_getitem _) (by kernel_rfl) ?_ ?_ (by kernel_rfl) (by kernel_rfl) (by kernel_rfl) (by decide +kernel)
  · rintro h _ rfl
    exact ⟨by kernel_rfl, by kernel_rfl⟩
  · rintro A s _ h₁ tk base outs mean mg mb C B X T rfl F
    w_on
    have N : News s.heap s.heap.objs.size h₁ [] := News.nil
    k_steps
    dsimp only
    exact Fin1.intro F ⟨_, rfl⟩
local macro_rules | `(tactic| walk_at "call type:enumerate") => `(tactic| (refine stop_ ?_))
local macro_rules | `(tactic| walk_at "compareOp Is str str") => `(tactic| (refine stop_ ?_))
theorem Le.ix_inj {x y : Le} (h : x.ix = y.ix) : x = y := by cases x <;> cases y <;> first | rfl | (cases h)
theorem Le.cp_inj {x y : Le} (h : x.cp = y.cp) : x = y := by cases x <;> cases y <;> first | rfl | (cases h)
theorem does_indexOf (w : World) (x : Le) (t t2 : Tok) (ht : 0 < t2) : DoesN w 63 4 (t2 + 1) (fun _ vs => vs = [.str (Str.ofString "ikbc") t, .str (sg x.cp) t2]) (fun _ _ _ r => ∃ t, r = .int x.ix t) := by
  refine does_ofN (binds := fun vs => (["a", "b"] : List Str).zip vs) (look_indexOf _) (by kernel_rfl) ?_ ?_ (by kernel_rfl) (by kernel_rfl) (by kernel_rfl) (by decide +kernel)
  · rintro h _ rfl
    exact ⟨by kernel_rfl, by kernel_rfl, Nat.succ_pos _⟩
  · rintro ⟨hdl, dp, frs, gd, un⟩ s _ h₁ tk base outs mean mg mb _ htk C B X T rfl F
    obtain rfl : hdl = none := (C _ _ F).hd
    obtain rfl : frs = some outs := B.stack
    w_on
    have N : News s.heap s.heap.objs.size h₁ [] := News.nil
    k_steps
    refine ⟨wpAny_For ?_⟩
    k_steps
    refine ⟨for_enumS [] (J := fun i h m => i ≤ x.ix ∧ m "b" = some (.str (sg x.cp) t2)) rfl rfl rfl rfl (fun i h h' m j _ => j) (by simp) F ⟨Nat.zero_le _, rfl⟩ ?_ ?_⟩
    · rintro i c u ti h tk2 m W hW hc hu hu2 ⟨hj, hb⟩ F2 N2
      obtain ⟨y, rfl, rfl⟩ := ikbc_at hc
      have F3 : Fr s.heap s.heap.objs.size h (fun z => if z = Str.ofString "j" then some (.str (sg y.cp) u) else if z = Str.ofString "i" then some (.int y.ix ti) else puts [(Str.ofString "b", .str (sg x.cp) t2)] m z) := by
        rw [show puts [(Str.ofString "b", Value.str (sg x.cp) t2)] m = m from funext (puts_eq (all1 hb))]; exact F2
      simp only [puts] at F3
      clear F2 hW
      k_steps
      refine ⟨is_strs (Nat.lt_of_lt_of_le (Nat.succ_pos t2) (Nat.le_trans htk hu)) ht (Nat.ne_of_gt (Nat.le_trans htk hu)) (booked (X.keeps (Fr.keep (by assumption)))) fun b hbb => ?_⟩
      by_cases q : y = x
      · subst q
        cases b
        · k_steps
          · dsimp only
            exact Fin1.intro F3 ⟨_, rfl⟩
          · rename (_ == _) = false => q
            simp at q
        · k_steps
          dsimp only
          exact Fin1.intro F3 ⟨_, rfl⟩
      · obtain rfl := hbb fun e => q (Le.cp_inj (sg_inj e))
        k_steps
        · rename (_ == _) = true => q2
          exact absurd (Le.cp_inj (sg_inj (beq_iff_eq.mp q2))) q
        · refine Turn.intro F3 (by assumption) (fun _ hp => hp) ⟨?_, rfl⟩
          have : y.ix ≠ x.ix := fun e => q (Le.ix_inj e)
          omega
    · rintro h tk m ⟨hj, _⟩ F2
      exfalso
      have : (Str.ofString "ikbc").cps.size = 4 := by decide
      rw [this] at hj
      cases x <;> simp [Le.ix] at hj
end Mine
/-! part W14 -/
namespace Mine
open PySem PySem.W PyProof.Rows PySem.Calls
theorem fill8 : KK = KK ∧ PySem.Challenge.rw_wf0081_01 = PySem.Challenge.rw_wf0081_01 := by
  k_fill
  exact ⟨rfl, rfl⟩
set_option maxHeartbeats 8000000
/-- the rows of the set b1 -/
noncomputable def b1es : Array (Int × Value) := #[(65024, .int 65024 265), (65025, .int 65025 266), (65026, .int 65026 267), (65027, .int 65027 268), (65028, .int 65028 269), (65029, .int 65029 270), (6150, .int 6150 251), (65030, .int 65030 271), (65031, .int 65031 272), (65032, .int 65032 273), (65033, .int 65033 274), (6155, .int 6155 252), (6156, .int 6156 253), (6157, .int 6157 254), (8203, .int 8203 255), (8204, .int 8204 256), (8205, .int 8205 257), (65034, .int 65034 275), (65035, .int 65035 276), (65036, .int 65036 277), (65037, .int 65037 278), (65038, .int 65038 279), (65039, .int 65039 280), (173, .int 173 249), (847, .int 847 250), (8288, .int 8288 258), (65279, .int 65279 259)]
noncomputable def b1S (k : Int) : Bool := b1es.toList.any fun e => Value.isInt k e.2
theorem set71 {P : Params} {h : Heap} (X : (KK P).In h) (prog : Program) (w : World) : h.SetOf (intKind prog w) 71 b1S 27 := by
  have e := X 71 (o71_10 P) (by kernel_rfl)
  refine ⟨_, b1es, 29, _, e, ⟨rfl, rfl, rfl⟩, rfl, ?_, ?_, by decide, by kernel_rfl, rfl⟩
  · have q : (b1es.toList.all fun e => match e.2 with | .int k _ => decide (e.1 = hashInt k) | _ => false) = true := by decide +kernel
    intro e he
    have := List.all_eq_true.mp q e he
    revert this
    cases e.2 <;> intro this <;> first | (cases this; done) | skip
    rename_i k t
    exact ⟨⟨k, by simp [intKind, Value.isInt], of_decide_eq_true this⟩, rfl⟩
  · intro k
    unfold b1S
    rw [List.any_eq_true]
    rfl
/-- the rows of the table b3 -/
noncomputable def D3 : List (Int × PyData) := ks.map fun p => (p.1, PyData.str p.2)
noncomputable def sortedB : List Int → Bool
  | a :: b :: r => decide (a < b) && sortedB (b :: r)
  | _ => true
theorem sorted_lt : ∀ {l : List Int} {a : Int}, sortedB (a :: l) = true → ∀ x ∈ l, a < x
  | [], _, _, x, hx => by cases hx
  | b :: r, a, h, x, hx => by
    simp only [sortedB, Bool.and_eq_true, decide_eq_true_eq] at h
    rcases List.mem_cons.mp hx with rfl | hx
    · exact h.1
    · exact Int.lt_trans h.1 (sorted_lt h.2 x hx)
theorem sorted_tail {l : List Int} {a : Int} (h : sortedB (a :: l) = true) : sortedB l = true := by
  cases l with
  | nil => rfl
  | cons b r =>
    simp only [sortedB, Bool.and_eq_true] at h
    exact h.2
theorem sorted_nodup : ∀ {l : List Int}, sortedB l = true → l.Nodup
  | [], _ => .nil
  | a :: l, h => List.nodup_cons.mpr ⟨fun hm => Int.lt_irrefl _ (sorted_lt h a hm), sorted_nodup (sorted_tail h)⟩
theorem d3_nodup : (D3.map (·.1)).Nodup := sorted_nodup (by kernel_rfl)
theorem look82 (P : Params) : KTD.keyedLook (fun b => (KK P).lookup b) 82 D3 = true := by
  unfold KTD.keyedLook
  rw [decide_eq_true d3_nodup]
  kernel_rfl
theorem keyed82 {P : Params} {h : Heap} (X : (KK P).In h) : KTD.Keyed h 82 D3 := KTD.keyed_of_look (fun b o q => X b o q) (look82 P)
theorem d3_str {k : Int} {d : PyData} : ∀ {l : KS}, KTD.datumAt k (l.map fun p => (p.1, PyData.str p.2)) = some d → ∃ x, d = .str x
  | [], h => by cases h
  | (i, y) :: l, h => by
    have h' : (if decide (k = i) = true then some (PyData.str y) else KTD.datumAt k (l.map fun p => (p.1, PyData.str p.2))) = some d := h
    split at h'
    · exact ⟨y, (Option.some.inj h').symm⟩
    · exact d3_str h'
noncomputable def fold (c : Nat) : Str := match KTD.datumAt (c : Int) D3 with
  | some (.str x) => x
  | _ => Txt.lower (sg c)
theorem get_b3 {w : World} {A : Around} {E : Value → Shared → Prop} {s : Shared} {c : Nat} {tk : Tok} {Q : Value → Shared → Prop} (X : (KK w.params).In s.heap)
    (h1 : ∀ x t, KTD.datumAt (c : Int) D3 = some (.str x) → Q (.str x t) { s with toks := s.toks + 1 }) (h2 : KTD.datumAt (c : Int) D3 = none → Q .none { s with toks := s.toks + 1 }) :
    wpAny (MM w) A (call (.builtin "dict.get") [.ref 82, .int (c : Int) tk]) Q E s := by
  refine call_get1_intTab (keyed82 X _ _) fun v hv => ?_
  rw [KTD.lookup_keyed] at hv
  cases hat : KTD.datumAt (c : Int) D3 with
  | none =>
    rw [hat] at hv
    have hv' : PyProof.V.Flat v .none := hv
    rw [hv'.none_inv]
    exact h2 hat
  | some d =>
    obtain ⟨x, rfl⟩ := d3_str hat
    rw [hat] at hv
    have hv' : PyProof.V.Flat v (.str x) := hv
    obtain ⟨t, rfl⟩ := hv'.str_inv
    exact h1 x t hat
local macro_rules | `(tactic| walk_at "compareOp In int ref") => `(tactic| (refine stop_ ?_))
local macro_rules | `(tactic| walk_at "getMethod ref") => `(tactic| (refine stop_ ?_))
local macro_rules | `(tactic| walk_at "call builtin:dict.get") => `(tactic| (refine stop_ ?_))
theorem does_b1 (w : World) (c : Nat) (t : Tok) : Does w 81 4 (fun _ vs => vs = [.str (sg c) t]) (fun _ _ _ r => r = .bool (b1S c)) := by
  refine does_of (binds := fun vs => (["code"] : List Str).zip vs) (look_in_table_b1 _) (by kernel_rfl) ?_ ?_ (by kernel_rfl) (by kernel_rfl) (by kernel_rfl) (by decide +kernel)
  · rintro h _ rfl
    exact ⟨by kernel_rfl, by kernel_rfl⟩
  · rintro A s _ h₁ tk base outs mean mg mb C B X T rfl F
    w_on
    have N : News s.heap s.heap.objs.size h₁ [] := News.nil
    k_steps
    refine ⟨wpAny_inSet_of (intKind_is _ _ _ _) rfl (set71 (X.keeps F.keep) _ w) ?_⟩
    k_steps
    dsimp only
    exact Fin1.intro F rfl
theorem does_b3 (w : World) (c : Nat) (t : Tok) : Does w 127 4 (fun _ vs => vs = [.str (sg c) t]) (fun _ _ _ r => ∃ tk, r = .str (fold c) tk) := by
  refine does_of (binds := fun vs => (["code"] : List Str).zip vs) (look_map_table_b3 _) (by kernel_rfl) ?_ ?_ (by kernel_rfl) (by kernel_rfl) (by kernel_rfl) (by decide +kernel)
  · rintro h _ rfl
    exact ⟨by kernel_rfl, by kernel_rfl⟩
  · rintro A s _ h₁ tk base outs mean mg mb C B X T rfl F
    w_on
    have N : News s.heap s.heap.objs.size h₁ [] := News.nil
    k_steps
    refine ⟨KTD.getMethod_keyed (keyed82 X) F.keep ?_⟩
    k_steps
    refine ⟨get_b3 (X.keeps F.keep) (fun x t hx => ?_) fun hx => ?_⟩
    · k_steps
      dsimp only
      exact Fin1.intro (by assumption) ⟨_, by unfold fold; rw [hx]⟩
    · k_steps
      refine SCL.lower (by show 1 ≤ _; decide) fun _ => ?_
      dsimp only
      exact Fin1.intro (by assumption) ⟨_, by unfold fold; rw [hx]⟩
end Mine
/-! part W15 -/
namespace Mine
open PySem PySem.W PyProof.Rows PySem.Calls
theorem fill9 : KK = KK ∧ PySem.Challenge.rw_wf0081_01 = PySem.Challenge.rw_wf0081_01 := by
  k_fill
  exact ⟨rfl, rfl⟩
set_option maxHeartbeats 8000000
/-- a sign of a row: @ or a letter -/
noncomputable abbrev Sg := Option Le
noncomputable def Sg.cp : Sg → Nat
  | none => 64
  | some x => x.cp
noncomputable def Sg.sym : Sg → Int
  | none => 49
  | some x => x.sym
noncomputable def Reads (c : Nat) (l : List Sg) : Prop := (b1S c = true ∧ l = []) ∨ (b1S c = false ∧ (fold c).cps.toList = l.map Sg.cp)
local macro_rules | `(tactic| walk_at "exec For") => `(tactic| (refine stop_ ?_))
local macro_rules | `(tactic| walk_at "exec For Name Call cons nil") => `(tactic| (refine stop_ ?_))
local macro_rules | `(tactic| walk_at "pyIter str") => `(tactic| (refine stop_ ?_))
local macro_rules | `(tactic| walk_at "call ref") => `(tactic| (refine stop_ ?_))
local macro_rules | `(tactic| walk_at "call builtin:list.append") => `(tactic| (refine stop_ ?_))
/-- a list that grows: the ints in it -/
noncomputable def RowAt (h : Heap) (r : Addr) (ns : List Int) : Prop := ∃ (vs : List Value) (n : Nat), h.get? r = some (listOf vs.toArray n) ∧ IntsAre vs ns
theorem RowAt.at {h h' : Heap} {r : Addr} {ns : List Int} (x : RowAt h r ns) (k : ∀ o, h.get? r = some o → h'.get? r = some o) : RowAt h' r ns := by
  obtain ⟨vs, n, e, i⟩ := x
  exact ⟨vs, n, k _ e, i⟩
theorem RowAt.ints {h : Heap} {r : Addr} {ns : List Int} (x : RowAt h r ns) : IntsAt h r ns := by
  obtain ⟨vs, n, e, i⟩ := x
  exact ⟨vs, ⟨_, e, rfl, n, rfl⟩, i⟩
theorem RowAt.push {h : Heap} {r : Addr} {ns : List Int} {vs : List Value} {n : Nat} {k : Int} {t : Tok} (e : h.get? r = some (listOf (vs.toArray.push (.int k t)) (n + 1))) (i : IntsAre vs ns) : RowAt h r (ns ++ [k]) :=
  ⟨vs ++ [.int k t], n + 1, by rw [e]; simp, IntsAre.append i (.cons k t .nil)⟩
theorem take_snoc {α : Type} {l : List α} {i : Nat} {x : α} (h : l[i]? = some x) : l.take (i + 1) = l.take i ++ [x] := by
  rw [List.take_add_one, h]; rfl
theorem sym_ix (x : Le) : (256 : Int) + x.ix = x.sym := by cases x <;> rfl
theorem flat_le {α : Type} {ls : List (List α)} {i : Nat} {l : List α} (h : ls[i]? = some l) (j : Nat) : (ls.take i).flatten.length + (l.take j).length ≤ ls.flatten.length := by
  have e : ls = ls.take i ++ l :: ls.drop (i + 1) := by
    obtain ⟨hlt, rfl⟩ := List.getElem?_eq_some_iff.mp h
    rw [← List.drop_eq_getElem_cons hlt, List.take_append_drop]
  have e2 : ls.flatten = (ls.take i).flatten ++ (l ++ (ls.drop (i + 1)).flatten) := by
    conv => lhs; rw [e]
    simp
  rw [e2, List.length_append, List.length_append, List.length_take]
  omega
theorem row_news {h₀ h : Heap} {L r : Addr} {o : Obj} {W : List (Addr × Obj)} (N : News h₀ L h W) (e : h.get? r = some o) (hL : r ≠ L) (h0 : h₀.get? r = none) : News h₀ L h ((r, o) :: W) := by
  intro p hp
  rcases List.mem_cons.mp hp with rfl | hp
  · exact ⟨e, hL, h0⟩
  · exact N p hp
theorem does_read (w : World) (tx : Str) (t : Tok) (ls : List (List Sg)) (hr : All2 Reads tx.cps.toList ls) (hz : ls.flatten.length ≤ 100) :
    Does w 184 8 (fun _ vs => vs = [.str tx t]) (fun _ _ h' r => ∃ a, r = .ref a ∧ IntsAt h' a (ls.flatten.map Sg.sym)) := by
  refine does_of (binds := fun vs => (["text"] : List Str).zip vs) (look_read _) (by kernel_rfl) ?_ ?_ (by kernel_rfl) (by kernel_rfl) (by kernel_rfl) (by decide +kernel)
  · rintro h _ rfl
    exact ⟨by kernel_rfl, by kernel_rfl⟩
  · rintro ⟨hdl, dp, frs, gd, un⟩ s _ h₁ tk base outs mean mg mb C B X T rfl F
    obtain rfl : hdl = none := (C _ _ F).hd
    obtain rfl : frs = some outs := B.stack
    w_on
    have N : News s.heap s.heap.objs.size h₁ [] := News.nil
    k_steps
    refine ⟨wpAny_For ?_⟩
    k_steps
    rename Fr _ _ _ _ => F2
    rename News _ _ _ _ => N2
    rename Addr => r
    have hr0 := N2 _ (.head _)
    dsimp only at hr0
    have hrN := Heap.lt_size hr0.1
    refine ⟨for_str [r] (J := fun i h m => m "row" = some (.ref r) ∧ RowAt h r ((ls.take i).flatten.map Sg.sym)) rfl rfl rfl ?_ (by simpa using hrN) F2 ⟨rfl, [], 0, hr0.1, .nil⟩ ?_ ?_⟩
    · rintro i h h' m ⟨a, b⟩ st
      exact ⟨a, b.at fun o e => st.old _ _ hrN hr0.2.1 e⟩
    · rintro i c u h tk m W hW hc hu hu2 ⟨hm, hrow⟩ F3 N3
      obtain ⟨l, hl, hrd⟩ := hr.get i (by simpa using hc)
      have F4 := fr_for _ F3 (all1 (x := "row") hm)
      simp only [puts] at F4
      clear F3 F2 N2
      have hWr : ∀ p ∈ W, p.1 ≠ r := by
        subst hW
        rintro ⟨b, o⟩ hp rfl
        exact (mem_allBut.mp hp).2.2 (by simp)
      clear hW
      k_steps
      refine ⟨use_st (does_b1 w c u) C (by omega) (by assumption) (by assumption) rfl ?_⟩
      rintro _ h5 tk5 htk5 F5 N5 st5 rfl
      clear F4 N3
      rcases hrd with ⟨hb, rfl⟩ | ⟨hb, hf⟩
      · rw [hb]
        k_steps
        refine Turn.intro F5 N5 (fun _ hp => hp) ⟨rfl, ?_⟩
        rw [take_snoc hl]
        simpa using hrow.at fun o e => st5 _ _ e
      · rw [hb]
        k_steps
        refine ⟨wpAny_For ?_⟩
        k_steps
        refine ⟨use_st (does_b3 w c u) C (by omega) (by assumption) (by assumption) rfl ?_⟩
        rintro _ h6 tk6 htk6 F6 N6 st6 ⟨t6, rfl⟩
        k_steps
        have hrow6 : RowAt h6 r (((ls.take i).flatten ++ l.take 0).map Sg.sym) := by
          simpa using (hrow.at fun o e => st5 _ _ e).at fun o e => st6 _ _ e
        have hrN6 : r < h6.objs.size := by
          obtain ⟨_, _, e, _⟩ := hrow6
          exact Heap.lt_size e
        refine ⟨for_str [r] (J := fun j h m => m "row" = some (.ref r) ∧ RowAt h r (((ls.take i).flatten ++ l.take j).map Sg.sym) ∧ ∀ p ∈ W, h.get? p.1 = some p.2) rfl rfl rfl ?_ (by simpa using hrN6) F6 ⟨rfl, hrow6, fun p hp => (N6 p hp).1⟩ ?_ ?_⟩
        · rintro j h h' m ⟨a1, b1, c1⟩ st
          exact ⟨a1, b1.at fun o e => st.old _ _ hrN6 hr0.2.1 e, fun p hp => st.old _ _ (Heap.lt_size (N6 p hp).1) (N6 p hp).2.1 (c1 p hp)⟩
        · rintro j c2 u2 h7 tk7 m7 W7 hW7 hc2 hu7 hu8 ⟨hm7, ⟨vs, n, hv, hi⟩, hW'⟩ F7 N7
          have F8 := fr_for _ F7 (all1 (x := "row") hm7)
          simp only [puts] at F8
          have hW7r : ∀ p ∈ W7, p.1 ≠ r := by
            subst hW7
            rintro ⟨b, o⟩ hp rfl
            exact (mem_allBut.mp hp).2.2 (by simp)
          have hsub : ∀ p ∈ W, p ∈ W7 := by
            subst hW7
            rintro ⟨b, o⟩ hp
            refine mem_allBut.mpr ⟨hW' _ hp, (N6 _ hp).2.2, ?_⟩
            intro hm
            rcases List.mem_cons.mp hm with e | hm
            · exact (N6 _ hp).2.1 e
            · exact hWr _ hp (List.mem_singleton.mp hm)
          have N8 := row_news N7 hv hr0.2.1 hr0.2.2
          clear hW7 N7 F7 N6 F6 N5 F5
          have hlen : vs.length ≤ 100 := by
            rw [hi.length, List.length_map, List.length_append]
            exact Nat.le_trans (flat_le hl j) hz
          have hc3 : (fold c).cps.toList[j]? = some c2 := by simpa using hc2
          rw [hf, List.getElem?_map] at hc3
          obtain ⟨g, hg, hgc⟩ := Option.map_eq_some_iff.mp hc3
          have hu0 : 0 < u2 := by
            have q1 : 0 < tk := Nat.lt_of_le_of_lt (Nat.zero_le _) hu2
            omega
          k_steps
          refine ⟨use_st (does_contains w c2 u2) C (by omega) (by assumption) (by assumption) rfl ?_⟩
          rintro _ h9 tk9 htk9 F9 N9 st9 ⟨bb, rfl, hb1, hb2⟩
          clear F8 N8
          cases g with
          | none =>
            obtain rfl : c2 = 64 := hgc.symm
            rw [hb1 rfl]
            k_steps
            refine ⟨use_st (does_getitem w u2) C (by omega) (by assumption) (by assumption) rfl ?_⟩
            rintro _ h10 tk10 htk10 F10 N10 st10 ⟨t10, rfl⟩
            clear F9 N9
            k_steps
            refine ⟨append_K (by assumption) (by assumption) (.head hW7r) ?_ (by rw [sizeLine_eq]; simp only [List.size_toArray]; omega)⟩
            intro h12 F12 N12
            k_steps
            refine Turn.intro F12 N12 (fun p hp => List.mem_cons_of_mem _ hp) ⟨rfl, ?_, fun p hp => (N12 p (List.mem_cons_of_mem _ (hsub p hp))).1⟩
            have q := RowAt.push (N12 _ (.head _)).1 hi
            rw [take_snoc hg, ← List.append_assoc, List.map_append]
            exact q
          | some x =>
            obtain rfl : c2 = x.cp := hgc.symm
            rw [hb2 x rfl]
            k_steps
            refine ⟨use_sn (does_indexOf w x _ u2 hu0) (by show u2 + 1 ≤ tk9 + 1; omega) C (by omega) (by assumption) (by assumption) rfl ?_⟩
            rintro _ h10 tk10 htk10 F10 N10 st10 ⟨t10, rfl⟩
            clear F9 N9
            k_steps
            refine ⟨use_st (does_addI w 256 x.ix _ _) C (by omega) (by assumption) (by assumption) ⟨rfl, by decide, by cases x <;> decide⟩ ?_⟩
            rintro _ h11 tk11 htk11 F11 N11 st11 ⟨t11, rfl⟩
            clear F10 N10
            k_steps
            refine ⟨append_K (by assumption) (by assumption) (.head hW7r) ?_ (by rw [sizeLine_eq]; simp only [List.size_toArray]; omega)⟩
            intro h12 F12 N12
            k_steps
            refine Turn.intro F12 N12 (fun p hp => List.mem_cons_of_mem _ hp) ⟨rfl, ?_, fun p hp => (N12 p (List.mem_cons_of_mem _ (hsub p hp))).1⟩
            have q := RowAt.push (N12 _ (.head _)).1 hi
            rw [take_snoc hg, ← List.append_assoc, List.map_append]
            rw [sym_ix] at q
            exact q
        · rintro h7 tk7 m7 ⟨hm7, hrow7, hW'⟩ F7
          have F8 := fr_puts _ F7 (all1 (x := "row") hm7)
          simp only [puts] at F8
          have N8 : News s.heap s.heap.objs.size h7 W := fun p hp => ⟨hW' p hp, (N6 p hp).2⟩
          clear F7 F6 N6 F5 N5
          k_steps
          refine Turn.intro F8 N8 (fun _ hp => hp) ⟨rfl, ?_⟩
          have e : l.take (fold c).cps.size = l := List.take_of_length_le (by have := congrArg List.length hf; simp at this; omega)
          rw [e] at hrow7
          rw [take_snoc hl]
          simpa using hrow7
    · rintro h tk m ⟨hm, hrow⟩ F3
      have F4 := fr_puts _ F3 (all1 (x := "row") hm)
      simp only [puts] at F4
      have N4 : News s.heap s.heap.objs.size h [] := News.nil
      clear F3 F2 N2
      k_steps
      dsimp only
      refine Fin1.intro F4 ⟨r, rfl, ?_⟩
      have e : ls.take tx.cps.size = ls := List.take_of_length_le (by have := hr.len; simp at this; omega)
      rw [e] at hrow
      exact hrow.ints
end Mine
/-! part W16 -/
namespace Mine
open PySem PySem.W PyProof.Rows PySem.Calls
theorem fill10 : KK = KK ∧ PySem.Challenge.rw_wf0081_01 = PySem.Challenge.rw_wf0081_01 := by
  k_fill
  exact ⟨rfl, rfl⟩
set_option maxHeartbeats 8000000
local macro_rules | `(tactic| walk_at "eval ListComp") => `(tactic| (refine stop_ ?_))
local macro_rules | `(tactic| walk_at "CompSrc") => `(tactic| (refine stop_ ?_))
local macro_rules | `(tactic| walk_at "call ref") => `(tactic| (refine stop_ ?_))
local macro_rules | `(tactic| walk_at "CompEnd") => `(tactic| (refine stop_ ?_))
local macro_rules | `(tactic| walk_at "call builtin:str.join") => `(tactic| (refine stop_ ?_))
noncomputable def shownOf (k : Int) : Str := if k = 49 then sg 64 else if k = 256 then sg 105 else if k = 257 then sg 107 else if k = 258 then sg 98 else sg 99
theorem shown_sym (g : Sg) : shownOf g.sym = sg g.cp := by
  cases g with
  | none => rfl
  | some x => cases x <;> rfl
theorem sym_cases {gs : List Sg} {k : Int} (h : k ∈ gs.map Sg.sym) : k = 49 ∨ k = 256 ∨ k = 257 ∨ k = 258 ∨ k = 259 := by
  obtain ⟨g, _, rfl⟩ := List.mem_map.mp h
  cases g with
  | none => exact .inl rfl
  | some x => cases x <;> simp [Sg.sym, Le.sym]
theorem does_shown (w : World) (a : Addr) (gs : List Sg) (hz : gs.length ≤ 100) :
    Does w 189 8 (fun h vs => vs = [.ref a] ∧ IntsAt h a (gs.map Sg.sym)) (fun _ _ h' r => ∃ tx t, r = .str tx t ∧ tx.cps.toList = gs.map Sg.cp) := by
  refine does_of (binds := fun vs => (["row"] : List Str).zip vs) (look_shown _) (by kernel_rfl) ?_ ?_ (by kernel_rfl) (by kernel_rfl) (by kernel_rfl) (by decide +kernel)
  · rintro h _ ⟨rfl, _⟩
    exact ⟨by kernel_rfl, by kernel_rfl⟩
  · rintro ⟨hdl, dp, frs, gd, un⟩ s _ h₁ tk base outs mean mg mb C B X T ⟨rfl, vs, hl, hi⟩ F
    obtain rfl : hdl = none := (C _ _ F).hd
    obtain rfl : frs = some outs := B.stack
    w_on
    have N : News s.heap s.heap.objs.size h₁ [] := News.nil
    have hvl : vs.length = gs.length := by rw [hi.length, List.length_map]
    k_steps
    refine ⟨LCg.ListComp_U (F₀ := F) (by with_unfolding_all rfl) (by decide) (by rfl) (by decide) (by rfl) ?_⟩
    k_steps
    refine ⟨LCg.CompSrc.base (by rfl) F N hl (by rw [sizeLine_eq]; simp only [List.size_toArray]; omega) ?_⟩
    intro g'
    refine kct_list shownOf hi (fun k t I oI C' oC D m₂ ys h tk E' hk hC hx F' N' off ne mk => ?_) ?_
    · rcases sym_cases hk with rfl | rfl | rfl | rfl | rfl
      all_goals
        k_steps
        refine ⟨use_does (does_isnt w _ _) C (by omega) (by assumption) (by assumption) rfl ?_⟩
        rintro _ h3 tk3 F3 N3 st3 rfl
      · rw [show decide ((256 : Int) ≤ 49) = false from rfl]
        k_steps
        exact ⟨LCg.CompEnd.intro F3 N3 [] (fun _ hp => hp) off (.inl hl) (kct_el (by decide +kernel) rfl rfl)⟩
      · rw [show decide ((256 : Int) ≤ 256) = true from rfl]
        k_steps
        exact ⟨LCg.CompEnd.intro F3 N3 [] (fun _ hp => hp) off (.inl hl) (kct_el (by decide +kernel) rfl rfl)⟩
      · rw [show decide ((256 : Int) ≤ 257) = true from rfl]
        k_steps
        exact ⟨LCg.CompEnd.intro F3 N3 [] (fun _ hp => hp) off (.inl hl) (kct_el (by decide +kernel) rfl rfl)⟩
      · rw [show decide ((256 : Int) ≤ 258) = true from rfl]
        k_steps
        exact ⟨LCg.CompEnd.intro F3 N3 [] (fun _ hp => hp) off (.inl hl) (kct_el (by decide +kernel) rfl rfl)⟩
      · rw [show decide ((256 : Int) ≤ 259) = true from rfl]
        k_steps
        exact ⟨LCg.CompEnd.intro F3 N3 [] (fun _ hp => hp) off (.inl hl) (kct_el (by decide +kernel) rfl rfl)⟩
    · unfold KPfDone
      intro ys hc _
      intro D h' tk' F3 N3
      k_steps
      refine ⟨KT.join_1 (l := gs.map Sg.sym) (g := shownOf) (News.isList N3 (.head _)) hc (fun a ha => ?_) (by rw [List.length_map]; omega) ?_⟩
      · rcases sym_cases ha with rfl | rfl | rfl | rfl | rfl <;> rfl
      · intro t' k _
        dsimp only
        refine Fin1.intro F3 ⟨_, _, rfl, ?_⟩
        rw [List.map_map, show (shownOf ∘ Sg.sym) = fun g => sg g.cp from funext shown_sym]
        show (Builtin.Str.glued (Str.ofString "") _).cps.toList = _
        rw [StrLaws.glued_eq_join, show Str.ofString "" = ⟨#[]⟩ by decide]
        have := join_ones (gs.map Sg.cp)
        rw [List.map_map] at this
        show (Str.join ⟨#[]⟩ (gs.map ((fun k => (⟨#[k]⟩ : Str)) ∘ Sg.cp))).cps.toList = _
        rw [this]
end Mine
/-! part W17 -/
namespace Mine
open PySem PySem.W PyProof.Rows PySem.Calls
theorem fill11 : KK = KK ∧ PySem.Challenge.rw_wf0081_01 = PySem.Challenge.rw_wf0081_01 := by
  k_fill
  exact ⟨rfl, rfl⟩
set_option maxHeartbeats 8000000
local macro_rules | `(tactic| walk_at "exec For") => `(tactic| (refine stop_ ?_))
local macro_rules | `(tactic| walk_at "subscriptTail Name Slice ref ref") => `(tactic| (refine stop_ ?_))
local macro_rules | `(tactic| walk_at "subscriptTail Name Name ref int") => `(tactic| (refine stop_ ?_))
local macro_rules | `(tactic| walk_at "subscriptTail Name BinOp ref int") => `(tactic| (refine stop_ ?_))
local macro_rules | `(tactic| walk_at "subscriptTail Name Constant ref int") => `(tactic| (refine stop_ ?_))
local macro_rules | `(tactic| walk_at "binaryOp Add ref ref") => `(tactic| (refine stop_ ?_))
local macro_rules | `(tactic| walk_at "call builtin:len") => `(tactic| (refine call_len_list (by walk_at "lst_now") (by simp; omega) ?_))
theorem All2.append {α β : Type} {R : α → β → Prop} {as as' : List α} {bs bs' : List β} (h : All2 R as bs) (h' : All2 R as' bs') : All2 R (as ++ as') (bs ++ bs') := by
  induction h with
  | nil => exact h'
  | cons x _ ih => exact .cons x ih
theorem All2.take {α β : Type} {R : α → β → Prop} {as : List α} {bs : List β} (h : All2 R as bs) (n : Nat) : All2 R (as.take n) (bs.take n) := by
  induction h generalizing n with
  | nil => simp; exact .nil
  | cons x _ ih => cases n with
    | zero => exact .nil
    | succ n => exact .cons x (ih n)
theorem All2.drop {α β : Type} {R : α → β → Prop} {as : List α} {bs : List β} (h : All2 R as bs) (n : Nat) : All2 R (as.drop n) (bs.drop n) := by
  induction h generalizing n with
  | nil => simp; exact .nil
  | cons x h ih => cases n with
    | zero => exact .cons x h
    | succ n => exact ih n
noncomputable def leOf (n : Int) : Le := if n.fmod 4 = 0 then .i else if n.fmod 4 = 1 then .k else if n.fmod 4 = 2 then .b else .c
theorem leOf_str (n : Int) : Txt.item (Str.ofString "ikbc") (n.fmod 4) = (leOf n).str := by
  have h0 := Int.fmod_nonneg_of_pos n (show (0 : Int) < 4 by decide)
  have h4 := Int.fmod_lt_of_pos n (show (0 : Int) < 4 by decide)
  unfold leOf
  generalize n.fmod 4 = r at *
  have : r = 0 ∨ r = 1 ∨ r = 2 ∨ r = 3 := by omega
  rcases this with rfl | rfl | rfl | rfl <;> decide
theorem leaves_of {h : Heap} {ys : List Value} {ns : List Int} (hc : CarriedAll ys (ns.map fun a => PyData.str (Txt.item (Str.ofString "ikbc") (a.fmod 4)))) : All2 (TreeAt h) ys (ns.map fun n => .lf (leOf n)) := by
  induction ns generalizing ys with
  | nil => cases hc; exact .nil
  | cons n ns ih =>
    cases hc with
    | cons a b =>
      cases a with
      | str t =>
        rw [leOf_str]
        exact .cons (.lf _ _) (ih b)
theorem leaves_size (ns : List Int) : sizes (ns.map fun n => Tr.lf (leOf n)) = ns.length := by
  induction ns with
  | nil => rfl
  | cons n ns ih =>
    have : sizes ((n :: ns).map fun n => Tr.lf (leOf n)) = 1 + sizes (ns.map fun n => Tr.lf (leOf n)) := rfl
    rw [this, ih, List.length_cons]; omega
theorem sizes_append (us vs : List Tr) : sizes (us ++ vs) = sizes us + sizes vs := by simp [sizes]
theorem split2 {us : List Tr} {q : Nat} (h : q + 2 ≤ us.length) : ∃ a b, us[q]? = some a ∧ us[q + 1]? = some b ∧ us = us.take q ++ (a :: b :: us.drop (q + 2)) := by
  refine ⟨us[q], us[q + 1], List.getElem?_eq_getElem _, List.getElem?_eq_getElem _, ?_⟩
  rw [← List.drop_eq_getElem_cons, ← List.drop_eq_getElem_cons, List.take_append_drop]
theorem does_tree (w : World) (a : Addr) (ns : List Int) (hz : ns.length = 8) (hn : ∀ x ∈ ns, 0 ≤ x ∧ x < 1000000) :
    Does w 142 8 (fun h vs => vs = [.ref a] ∧ IntsAt h a ns) (fun _ _ h' r => ∃ t : Tr, t.size = 8 ∧ TreeAt h' r t) := by
  refine does_of (binds := fun vs => (["numbers"] : List Str).zip vs) (look_tree _) (by kernel_rfl) ?_ ?_ (by kernel_rfl) (by kernel_rfl) (by kernel_rfl) (by decide +kernel)
  · rintro h _ ⟨rfl, _⟩
    exact ⟨by kernel_rfl, by kernel_rfl⟩
  · rintro ⟨hdl, dp, frs, gd, un⟩ s _ h₁ tk base outs mean mg mb C B X T ⟨rfl, vs, hl, hi⟩ F
    obtain rfl : hdl = none := (C _ _ F).hd
    obtain rfl : frs = some outs := B.stack
    w_on
    have N : News s.heap s.heap.objs.size h₁ [] := News.nil
    have hvl := hi.length
    rw [hz] at hvl
    k_steps
    rename CarriedAll _ _ => hc
    rw [List.filter_eq_self.mpr (by simp)] at hc
    refine ⟨wpAny_For ?_⟩
    k_steps
    rename Fr _ _ _ _ => F2
    rename News _ _ _ [_] => N2
    refine ⟨cut_lst F2 N2 (Fr.lst F2 hl) .none (.int _ _) (pick_upto _ _ (by decide)) (by omega) ?_⟩
    intro D5 h5 F5 N5
    dsimp only
    refine for_s (J := fun i h m => ∃ (p : Addr) (ws : List Value) (us : List Tr), m "parts" = some (.ref p) ∧ h.IsList p ws.toArray ∧ All2 (TreeAt h) ws us ∧ sizes us = 8 ∧ us.length + i = 8) rfl (lobj_is (N5 _ (.head _)).1) rfl rfl ?_ F5 ⟨_, _, _, rfl, ⟨_, (N5 _ (.tail _ (.head _))).1, rfl, _, rfl⟩, leaves_of hc, by rw [leaves_size, hz], by rw [List.length_map, hz]⟩ ?_ ?_
    · rintro i h h' m ⟨p, ws, us, e1, e2, e3, e4, e5⟩ st
      exact ⟨p, ws, us, e1, Mine.IsList.seqStay e2 st, e3.mono fun _ _ q => q.seqStay st, e4, e5⟩
    · rintro i v h tk m W hv ⟨p, ws, us, e1, e2, e3, e4, e5⟩ F3 N3 K3
      have F4 := fr_for _ F3 (all1 (x := "parts") e1)
      simp only [puts] at F4
      have hW : LstWas s.heap s.heap.objs.size W p ws := ⟨h, K3, e2⟩
      have hv2 : (vs.take 7)[i]? = some v := by simpa using hv
      obtain ⟨hi7, _⟩ := List.getElem?_eq_some_iff.mp hv2
      rw [List.length_take] at hi7
      rw [List.getElem?_take] at hv2
      split at hv2
      rotate_left
      · cases hv2
      obtain ⟨x, t, rfl, hx⟩ := IntsAre.at hi i v hv2
      obtain ⟨hx0, hx1⟩ := hn x (List.mem_of_getElem? hx)
      have hwl := e3.len
      have hsz : (ws.toArray.size : Int) = us.length := by simp only [List.size_toArray]; omega
      have hm0 : (0 : Int) ≤ ((x.fdiv 8).fmod (↑ws.toArray.size - 1)) := Int.fmod_nonneg_of_pos _ (by omega)
      have hm1 : ((x.fdiv 8).fmod (↑ws.toArray.size - 1)) + 2 ≤ (us.length : Int) := by
        have := Int.fmod_lt_of_pos (x.fdiv 8) (show (0 : Int) < ↑ws.toArray.size - 1 by omega)
        omega
      have hz1 : (0 : Int) + 2 ≤ (us.length : Int) := by omega
      clear F3 F5 N5 F2 N2
      k_steps
      · rename Fr _ _ _ _ => F6
        dsimp only at F6
        have hZ0 : (0 : Int) ≤ 0 := Int.le_refl _
        have hZ1 := hz1
        clear F4
        obtain ⟨u0, u1, hu0, hu1, hus⟩ := split2 (us := us) (q := ((0 : Int)).toNat) (by omega)
        have hq2 : ((0 : Int) + 2).toNat = ((0 : Int)).toNat + 2 := by omega
        have hq1 : ((0 : Int) + 1).toNat = ((0 : Int)).toNat + 1 := by omega
        have hw0 : ws[((0 : Int)).toNat]? = some ws[((0 : Int)).toNat] := List.getElem?_eq_getElem (by omega)
        have hw1 : ws[((0 : Int) + 1).toNat]? = some ws[((0 : Int) + 1).toNat] := List.getElem?_eq_getElem (by omega)
        generalize ws[((0 : Int)).toNat] = v0 at hw0
        generalize ws[((0 : Int) + 1).toNat] = v1 at hw1
        refine ⟨cut_lst (by assumption) (by assumption) (by walk_at "lst_now") .none (.int _ _) (pick_upto _ _ hZ0) (by omega) ?_⟩
        intro D1 h1 F1 N1
        k_steps
        refine ⟨item_lst (by walk_at "lst_now") hZ0 (by omega) hw0 ?_⟩
        k_steps
        refine ⟨item_lst (by walk_at "lst_now") (by omega) (by omega) hw1 ?_⟩
        k_steps
        refine ⟨cat_lst (by assumption) (by assumption) (by walk_at "lst_now") (by walk_at "lst_now") (by simp only [List.length_take, List.length_cons, List.length_nil]; omega) ?_⟩
        intro D2 h2 F2 N2
        k_steps
        refine ⟨cut_lst (by assumption) (by assumption) (by walk_at "lst_now") (.int _ _) .none (pick_from _ _ (by omega)) (by omega) ?_⟩
        intro D3 h3 F3 N3
        k_steps
        refine ⟨cat_lst (by assumption) (by assumption) (by walk_at "lst_now") (by walk_at "lst_now") (by simp only [List.length_append, List.length_drop, List.length_take, List.length_cons, List.length_nil]; omega) ?_⟩
        intro D4 h4 F4 N4
        k_steps
        rename Fr _ _ _ _ => F7
        rename News _ _ _ _ => N7
        dsimp only at F7 N7 ⊢
        have sq := K3.seq F7 N7 (by walk_at "w_sub")
        have e6 := e3.mono fun _ _ q => q.seqStay sq
        obtain ⟨b0, hb0, t0⟩ := e6.get _ hw0
        obtain ⟨b1, hb1, t1⟩ := e6.get _ hw1
        rw [hu0] at hb0
        rw [hq1, hu1] at hb1
        obtain rfl := Option.some.inj hb0
        obtain rfl := Option.some.inj hb1
        refine Turn.intro F7 N7 (by walk_at "w_sub") ⟨D4, _, us.take ((0 : Int)).toNat ++ [.ap u0 u1] ++ us.drop (((0 : Int)).toNat + 2), rfl, lobj_is (N7 _ (.head _)).1, ?_, ?_, ?_⟩
        · rw [← hq2]
          exact ((e6.take _).append (.cons (.ap (News.isTup N7 (by walk_at "mem_now")) t0 t1) .nil)).append (e6.drop _)
        · rw [← e4]
          conv => rhs; rw [hus]
          simp only [sizes_append]
          simp only [sizes, List.map_cons, List.sum_cons, List.map_nil, List.sum_nil, Tr.size]
          omega
        · simp only [List.length_append, List.length_take, List.length_drop, List.length_cons, List.length_nil]
          omega
      · rename Fr _ _ _ _ => F6
        dsimp only at F6
        generalize ((x.fdiv 8).fmod (↑ws.toArray.size - 1)) = Z at hm0 hm1 F6 ⊢
        have hZ0 := hm0
        have hZ1 := hm1
        clear F4
        obtain ⟨u0, u1, hu0, hu1, hus⟩ := split2 (us := us) (q := (Z).toNat) (by omega)
        have hq2 : (Z + 2).toNat = (Z).toNat + 2 := by omega
        have hq1 : (Z + 1).toNat = (Z).toNat + 1 := by omega
        have hw0 : ws[(Z).toNat]? = some ws[(Z).toNat] := List.getElem?_eq_getElem (by omega)
        have hw1 : ws[(Z + 1).toNat]? = some ws[(Z + 1).toNat] := List.getElem?_eq_getElem (by omega)
        generalize ws[(Z).toNat] = v0 at hw0
        generalize ws[(Z + 1).toNat] = v1 at hw1
        refine ⟨cut_lst (by assumption) (by assumption) (by walk_at "lst_now") .none (.int _ _) (pick_upto _ _ hZ0) (by omega) ?_⟩
        intro D1 h1 F1 N1
        k_steps
        refine ⟨item_lst (by walk_at "lst_now") hZ0 (by omega) hw0 ?_⟩
        k_steps
        refine ⟨item_lst (by walk_at "lst_now") (by omega) (by omega) hw1 ?_⟩
        k_steps
        refine ⟨cat_lst (by assumption) (by assumption) (by walk_at "lst_now") (by walk_at "lst_now") (by simp only [List.length_take, List.length_cons, List.length_nil]; omega) ?_⟩
        intro D2 h2 F2 N2
        k_steps
        refine ⟨cut_lst (by assumption) (by assumption) (by walk_at "lst_now") (.int _ _) .none (pick_from _ _ (by omega)) (by omega) ?_⟩
        intro D3 h3 F3 N3
        k_steps
        refine ⟨cat_lst (by assumption) (by assumption) (by walk_at "lst_now") (by walk_at "lst_now") (by simp only [List.length_append, List.length_drop, List.length_take, List.length_cons, List.length_nil]; omega) ?_⟩
        intro D4 h4 F4 N4
        k_steps
        rename Fr _ _ _ _ => F7
        rename News _ _ _ _ => N7
        dsimp only at F7 N7 ⊢
        have sq := K3.seq F7 N7 (by walk_at "w_sub")
        have e6 := e3.mono fun _ _ q => q.seqStay sq
        obtain ⟨b0, hb0, t0⟩ := e6.get _ hw0
        obtain ⟨b1, hb1, t1⟩ := e6.get _ hw1
        rw [hu0] at hb0
        rw [hq1, hu1] at hb1
        obtain rfl := Option.some.inj hb0
        obtain rfl := Option.some.inj hb1
        refine Turn.intro F7 N7 (by walk_at "w_sub") ⟨D4, _, us.take (Z).toNat ++ [.ap u0 u1] ++ us.drop ((Z).toNat + 2), rfl, lobj_is (N7 _ (.head _)).1, ?_, ?_, ?_⟩
        · rw [← hq2]
          exact ((e6.take _).append (.cons (.ap (News.isTup N7 (by walk_at "mem_now")) t0 t1) .nil)).append (e6.drop _)
        · rw [← e4]
          conv => rhs; rw [hus]
          simp only [sizes_append]
          simp only [sizes, List.map_cons, List.sum_cons, List.map_nil, List.sum_nil, Tr.size]
          omega
        · simp only [List.length_append, List.length_take, List.length_drop, List.length_cons, List.length_nil]
          omega
    · rintro h tk m ⟨p, ws, us, e1, e2, e3, e4, e5⟩ F3
      have F4 := fr_puts _ F3 (all1 (x := "parts") e1)
      simp only [puts] at F4
      have N4 : News s.heap s.heap.objs.size h [] := News.nil
      clear F3 F5 N5 F2 N2
      have hl7 : (List.take (Int.toNat 7) vs).toArray.size = 7 := by simp only [List.size_toArray, List.length_take]; omega
      rw [hl7] at e5
      have e3l := e3.len
      k_steps
      obtain ⟨v0, ws0, u0, us0, rfl, rfl, ht, _⟩ := e3.uncons (by omega)
      refine ⟨item_lst e2 (by decide) (by decide) rfl ?_⟩
      dsimp only
      refine Fin1.intro F4 ⟨u0, ?_, ht⟩
      cases us0 with
      | nil => simpa [sizes] using e4
      | cons _ _ => simp only [List.length_cons] at e5; omega
end Mine
/-! part W18 -/
namespace Mine
open PySem PySem.W PyProof.Rows PySem.Calls
theorem fill12 : KK = KK ∧ PySem.Challenge.rw_wf0081_01 = PySem.Challenge.rw_wf0081_01 := by
  k_fill
  exact ⟨rfl, rfl⟩
set_option maxHeartbeats 8000000
local macro_rules | `(tactic| walk_at "exec For") => `(tactic| (refine stop_ ?_))
local macro_rules | `(tactic| walk_at "exec For Tuple Call cons nil") => `(tactic| (refine stop_ ?_))
local macro_rules | `(tactic| walk_at "call type:enumerate") => `(tactic| (refine stop_ ?_))
local macro_rules | `(tactic| walk_at "call ref") => `(tactic| (refine stop_ ?_))
local macro_rules | `(tactic| walk_at "call builtin:list.append") => `(tactic| (refine stop_ ?_))
/-- the places of the letters that can do their step -/
noncomputable def headsF : Nat → Nat → List Sg → List Nat
  | _, _, [] => []
  | off, run, none :: r => headsF (off + 1) (run + 1) r
  | off, run, some x :: r => if x.ar ≤ run then off :: headsF (off + 1) 0 r else headsF (off + 1) 0 r
theorem does_heads (w : World) (a : Addr) (gs : List Sg) (hz : gs.length ≤ 100) :
    Does w 196 8 (fun h vs => vs = [.ref a] ∧ IntsAt h a (gs.map Sg.sym)) (fun _ _ h' r => ∃ b, r = .ref b ∧ IntsAt h' b ((headsF 0 0 gs).map fun n : Nat => (n : Int))) := by
  refine does_of (binds := fun vs => (["row"] : List Str).zip vs) (look_heads _) (by kernel_rfl) ?_ ?_ (by kernel_rfl) (by kernel_rfl) (by kernel_rfl) (by decide +kernel)
  · rintro h _ ⟨rfl, _⟩
    exact ⟨by kernel_rfl, by kernel_rfl⟩
  · rintro ⟨hdl, dp, frs, gd, un⟩ s _ h₁ tk base outs mean mg mb C B X T ⟨rfl, vs, hl, hi⟩ F
    obtain rfl : hdl = none := (C _ _ F).hd
    obtain rfl : frs = some outs := B.stack
    w_on
    have N : News s.heap s.heap.objs.size h₁ [] := News.nil
    have hvl : vs.length = gs.length := by rw [hi.length, List.length_map]
    k_steps
    refine ⟨wpAny_For ?_⟩
    k_steps
    rename Fr _ _ _ _ => F2
    rename News _ _ _ _ => N2
    rename Addr => r
    have hr0 := N2 _ (.head _)
    dsimp only at hr0
    have hrN := Heap.lt_size hr0.1
    refine ⟨for_enumL [r] (J := fun i h m => ∃ (hs : List Nat) (run : Nat) (q : Int) (t : Tok), m "heads" = some (.ref r) ∧ RowAt h r (hs.map fun n : Nat => (n : Int)) ∧ m "run" = some (.int q t) ∧ q = run ∧ run ≤ i ∧ hs.length ≤ i ∧ hs ++ headsF i run (gs.drop i) = headsF 0 0 gs) rfl rfl rfl rfl (Fr.lst F2 hl) ?_ ?_ (by simpa using hrN) F2 ⟨[], 0, _, _, rfl, ⟨[], 0, hr0.1, .nil⟩, rfl, rfl, Nat.le_refl _, Nat.le_refl _, rfl⟩ ?_ ?_⟩
    · intro e
      have e' : a = r := by simpa using e
      obtain ⟨_, ho, _⟩ := hl
      rw [e', hr0.2.2] at ho
      cases ho
    · rintro i h h' m ⟨hs, run, q, t, e1, e2, e3, e4, e5, e6, e7⟩ st
      exact ⟨hs, run, q, t, e1, e2.at fun o e => st.old _ _ hrN hr0.2.1 e, e3, e4, e5, e6, e7⟩
    · rintro i v ti h tk m W hW hv ⟨hs, run, q, t, e1, ⟨us, n, hu, hui⟩, e3, rfl, e5, e6, e7⟩ F3 N3
      have hilt : i < gs.length := by
        obtain ⟨q, _⟩ := Array.getElem?_eq_some_iff.mp hv
        simp only [List.size_toArray] at q
        omega
      have hWr : ∀ p ∈ W, p.1 ≠ r := by
        subst hW
        rintro ⟨b, o⟩ hp rfl
        exact (mem_allBut.mp hp).2.2 (by simp)
      obtain ⟨k, t2, rfl, hk⟩ := IntsAre.at hi i v (by simpa using hv)
      rw [List.getElem?_map] at hk
      obtain ⟨g, hg, rfl⟩ := Option.map_eq_some_iff.mp hk
      have hd : gs.drop i = g :: gs.drop (i + 1) := by
        obtain ⟨q, rfl⟩ := List.getElem?_eq_some_iff.mp hg
        exact List.drop_eq_getElem_cons q
      rw [hd] at e7
      have F4 : Fr s.heap s.heap.objs.size h (fun z => if z = Str.ofString "symbol" then some (.int g.sym t2) else if z = Str.ofString "place" then some (.int i ti) else puts [(Str.ofString "heads", .ref r), (Str.ofString "run", .int run t)] m z) := by
        rw [show puts [(Str.ofString "heads", Value.ref r), (Str.ofString "run", .int run t)] m = m from funext (puts_eq (allc e1 (all1 e3)))]; exact F3
      simp only [puts] at F4
      have N4 := row_news N3 hu hr0.2.1 hr0.2.2
      have hul : us.length ≤ 100 := by rw [hui.length, List.length_map]; omega
      clear F3 N3 hW F2 N2
      cases g with
      | none =>
        k_steps
        refine ⟨use_st (does_isnt w _ _) C (by omega) (by assumption) (by assumption) rfl ?_⟩
        rintro _ h5 tk5 htk5 F5 N5 st5 rfl
        clear F4 N4
        rw [show decide (256 ≤ Sg.sym none) = false from rfl]
        k_steps
        rename Fr _ _ _ _ => F6
        rename News _ _ _ _ => N6
        refine Turn.intro F6 N6 (fun p hp => List.mem_cons_of_mem _ hp) ⟨hs, run + 1, _, _, rfl, ⟨us, n, (N6 _ (.head _)).1, hui⟩, rfl, by push_cast; rfl, by omega, by omega, e7⟩
      | some x =>
        k_steps
        refine ⟨use_st (does_isnt w _ _) C (by omega) (by assumption) (by assumption) rfl ?_⟩
        rintro _ h5 tk5 htk5 F5 N5 st5 rfl
        clear F4 N4
        rw [show decide (256 ≤ Sg.sym (some x)) = true by cases x <;> rfl]
        k_steps
        refine ⟨use_st (does_sub w _ _ _ _) C (by omega) (by assumption) (by assumption) ⟨rfl, by cases x <;> decide, by decide⟩ ?_⟩
        rintro _ h7 tk7 htk7 F7 N7 st7 ⟨t7, rfl⟩
        clear F5 N5
        k_steps
        refine ⟨use_st (does_ge w _ _ _ _) C (by omega) (by assumption) (by assumption) rfl ?_⟩
        rintro _ h9 tk9 htk9 F9 N9 st9 rfl
        rw [show (if Sg.sym (some x) - 255 < 3 then Sg.sym (some x) - 255 else 3) = (x.ar : Int) by cases x <;> rfl]
        by_cases hle : x.ar ≤ run
        · rw [show decide ((x.ar : Int) ≤ (run : Int)) = true by simpa using hle]
          k_steps
          refine ⟨append_K (by assumption) (by assumption) (.head hWr) ?_ (by rw [sizeLine_eq]; simp only [List.size_toArray]; omega)⟩
          intro h12 F12 N12
          k_steps
          rename Fr _ _ _ _ => F6
          rename News _ _ _ _ => N6
          refine Turn.intro F6 N6 (fun p hp => List.mem_cons_of_mem _ hp) ⟨hs ++ [i], 0, _, _, rfl, ?_, rfl, rfl, Nat.zero_le _, by simp only [List.length_append, List.length_cons, List.length_nil]; omega, ?_⟩
          · rw [List.map_append]
            exact RowAt.push (N6 _ (.head _)).1 hui
          · rw [headsF, if_pos hle] at e7
            rw [List.append_assoc]
            exact e7
        · rw [show decide ((x.ar : Int) ≤ (run : Int)) = false by simpa using hle]
          k_steps
          rename Fr _ _ _ _ => F6
          rename News _ _ _ _ => N6
          refine Turn.intro F6 N6 (fun p hp => List.mem_cons_of_mem _ hp) ⟨hs, 0, _, _, rfl, ⟨us, n, (N6 _ (.head _)).1, hui⟩, rfl, rfl, Nat.zero_le _, by omega, ?_⟩
          rw [headsF, if_neg hle] at e7
          exact e7
    · rintro h tk m ⟨hs, run, q, t, e1, e2, e3, rfl, e5, e6, e7⟩ F3
      have F4 := fr_puts _ F3 (all1 (x := "heads") e1)
      simp only [puts] at F4
      have N4 : News s.heap s.heap.objs.size h [] := News.nil
      clear F3 F2 N2
      k_steps
      dsimp only
      refine Fin1.intro F4 ⟨r, rfl, ?_⟩
      have e : gs.drop vs.toArray.size = [] := List.drop_of_length_le (by simp only [List.size_toArray]; omega)
      rw [e] at e7
      have e8 : hs = headsF 0 0 gs := by simpa [headsF] using e7
      rw [← e8]
      exact e2.ints
end Mine
/-! part M2 -/
namespace Mine
noncomputable def Tr.toks : Tr → List Sg
  | .lf x => [some x]
  | .ap l r => none :: (l.toks ++ r.toks)
theorem Tr.toks_flat (t : Tr) : t.flat = t.toks.map Sg.sym := by
  induction t with
  | lf x => rfl
  | ap l r a b => simp only [Tr.flat, Tr.toks, List.map_cons, List.map_append, a, b]; rfl
theorem Tr.toks_len (t : Tr) : t.toks.length + 1 = 2 * t.size := by
  have := t.flat_len
  rw [t.toks_flat, List.length_map] at this
  exact this
theorem Tr.toks_text (t : Tr) : t.text.cps.toList = t.toks.map Sg.cp := by
  induction t with
  | lf x => cases x <;> decide
  | ap l r a b =>
    show ((PySem.Str.ofString "@" ++ l.text) ++ r.text).cps.toList = _
    rw [Str.cps_append, Str.cps_append, a, b]
    have : (PySem.Str.ofString "@").cps.toList = [64] := by decide
    rw [this]
    simp [Tr.toks, Sg.cp]
/-- the places of the tree's letters behind the first one that can do their step -/
noncomputable def inner : Nat → Tr → List Nat
  | _, .lf _ => []
  | off, .ap l r => inner (off + 1) l ++ ((if r.hd.ar ≤ r.sp then [off + 1 + l.toks.length + r.sp] else []) ++ inner (off + 1 + l.toks.length) r)
noncomputable def full (off : Nat) (t : Tr) : List Nat := (if t.hd.ar ≤ t.sp then [off + t.sp] else []) ++ inner off t
theorem heads_tree (t : Tr) : ∀ (off run : Nat) (rest : List Sg), headsF off run (t.toks ++ rest) = (if t.hd.ar ≤ run + t.sp then [off + t.sp] else []) ++ (inner off t ++ headsF (off + t.toks.length) 0 rest) := by
  induction t with
  | lf x =>
    intro off run rest
    by_cases q : x.ar ≤ run
    · have e1 : headsF off run (some x :: rest) = off :: headsF (off + 1) 0 rest := by rw [headsF, if_pos q]
      have e2 : (if (Tr.lf x).hd.ar ≤ run + (Tr.lf x).sp then [off + (Tr.lf x).sp] else []) = [off] := if_pos q
      show headsF off run (some x :: rest) = _ ++ ([] ++ headsF (off + 1) 0 rest)
      rw [e1, e2]; rfl
    · have e1 : headsF off run (some x :: rest) = headsF (off + 1) 0 rest := by rw [headsF, if_neg q]
      have e2 : (if (Tr.lf x).hd.ar ≤ run + (Tr.lf x).sp then [off + (Tr.lf x).sp] else []) = [] := if_neg q
      show headsF off run (some x :: rest) = _ ++ ([] ++ headsF (off + 1) 0 rest)
      rw [e1, e2]; rfl
  | ap l r hl hr =>
    intro off run rest
    simp only [Tr.toks, List.cons_append, List.append_assoc, headsF, inner]
    rw [hl, hr]
    have e1 : run + 1 + l.sp = run + (l.sp + 1) := by omega
    have e2 : off + 1 + l.sp = off + (l.sp + 1) := by omega
    have e3 : off + 1 + l.toks.length + r.toks.length = off + (none :: (l.toks ++ r.toks) : List Sg).length := by simp; omega
    simp only [Tr.hd, Tr.sp, e1, e2, e3, Nat.zero_add]
    rfl
theorem heads_full (t : Tr) : headsF 0 0 t.toks = full 0 t := by
  have := heads_tree t 0 0 []
  simp only [List.append_nil, headsF, Nat.zero_add] at this
  unfold full
  simpa using this
/-- what the letter x makes of its parts -/
noncomputable def contract : Le → List Tr → Tr
  | .b, [x, y, z] => .ap x (.ap y z)
  | .c, [x, y, z] => .ap (.ap x z) y
  | _, x :: _ => x
  | _, [] => .lf .i
noncomputable def toksL (us : List Tr) : List Sg := (us.map Tr.toks).flatten
/-- the letter at place p can do its step, and u is what comes -/
noncomputable def Rd (t : Tr) (p : Nat) (u : Tr) : Prop := ∃ (A B : List Sg) (x : Le) (args : List Tr), args.length = x.ar ∧ t.toks = A ++ (List.replicate x.ar none ++ (some x :: (toksL args ++ B))) ∧ p = A.length + x.ar ∧ u.toks = A ++ ((contract x args).toks ++ B)
theorem Rd.left {l u : Tr} {p : Nat} (r : Tr) (h : Rd l p u) : Rd (.ap l r) (p + 1) (.ap u r) := by
  obtain ⟨A, B, x, args, h1, h2, h3, h4⟩ := h
  refine ⟨none :: A, B ++ r.toks, x, args, h1, ?_, by simp only [List.length_cons]; omega, ?_⟩
  · simp [Tr.toks, h2]
  · simp [Tr.toks, h4]
theorem Rd.right {r u : Tr} {p : Nat} (l : Tr) (h : Rd r p u) : Rd (.ap l r) (1 + l.toks.length + p) (.ap l u) := by
  obtain ⟨A, B, x, args, h1, h2, h3, h4⟩ := h
  refine ⟨none :: (l.toks ++ A), B, x, args, h1, ?_, by simp only [List.length_cons, List.length_append]; omega, ?_⟩
  · simp [Tr.toks, h2]
  · simp [Tr.toks, h4]
theorem root_rd {l r u : Tr} (h : rootRed (.ap l r) = [u]) : Rd (.ap l r) (l.sp + 1) u := by
  cases l with
  | lf x =>
    cases x <;> simp [rootRed] at h
    subst h
    exact ⟨[], [], .i, [r], rfl, by simp [Tr.toks, toksL, Le.ar], rfl, by simp [contract]⟩
  | ap l y =>
    cases l with
    | lf x =>
      cases x <;> simp [rootRed] at h
      subst h
      exact ⟨[], [], .k, [y, r], rfl, by simp [Tr.toks, toksL, Le.ar, List.replicate], rfl, by simp [contract]⟩
    | ap l x =>
      cases l with
      | lf z =>
        cases z <;> simp [rootRed] at h
        · subst h
          exact ⟨[], [], .b, [x, y, r], rfl, by simp [Tr.toks, toksL, Le.ar, List.replicate], rfl, by simp [contract]⟩
        · subst h
          exact ⟨[], [], .c, [x, y, r], rfl, by simp [Tr.toks, toksL, Le.ar, List.replicate], rfl, by simp [contract]⟩
      | ap l z => simp [rootRed] at h
theorem All2.append' {α β : Type} {R : α → β → Prop} {as as' : List α} {bs bs' : List β} (h : All2 R as bs) (h' : All2 R as' bs') : All2 R (as ++ as') (bs ++ bs') := by
  induction h with
  | nil => exact h'
  | cons x _ ih => exact .cons x ih
theorem All2.map2 {α β γ : Type} {R : α → β → Prop} {S : α → γ → Prop} {f : β → γ} {as : List α} {bs : List β} (h : All2 R as bs) (q : ∀ a b, R a b → S a (f b)) : All2 S as (bs.map f) := by
  induction h with
  | nil => exact .nil
  | cons x _ ih => exact .cons (q _ _ x) ih
theorem root_len (l r : Tr) (h : l.hd.ar = l.sp + 1) : ∃ u, rootRed (.ap l r) = [u] := by
  have h := (root_iff l r).mpr h
  unfold rootRed at h ⊢
  split <;> first | exact ⟨_, rfl⟩ | skip
  rename_i h1 h2 h3 h4
  exfalso
  apply h
  split <;> simp_all
/-- the heads stand by the steps -/
theorem heads_reds (t : Tr) : ∀ off, All2 (fun p u => ∃ p0, p = off + p0 ∧ Rd t p0 u) (full off t) (reds t) := by
  induction t with
  | lf x => intro off; cases x <;> exact .nil
  | ap l r hl hr =>
    intro off
    have hL : All2 (fun p u => ∃ p0, p = off + p0 ∧ Rd (.ap l r) p0 u) (full (off + 1) l) ((reds l).map (fun l' => Tr.ap l' r)) :=
      (hl (off + 1)).map2 fun p u ⟨p0, e, h⟩ => ⟨p0 + 1, by omega, h.left r⟩
    have hR : All2 (fun p u => ∃ p0, p = off + p0 ∧ Rd (.ap l r) p0 u) (full (off + 1 + l.toks.length) r) ((reds r).map (fun r' => Tr.ap l r')) :=
      (hr (off + 1 + l.toks.length)).map2 fun p u ⟨p0, e, h⟩ => ⟨1 + l.toks.length + p0, by omega, h.right l⟩
    simp only [reds]
    have e0 : full off (.ap l r) = (if l.hd.ar ≤ l.sp + 1 then [off + (l.sp + 1)] else []) ++ (inner (off + 1) l ++ full (off + 1 + l.toks.length) r) := by
      simp only [full, Tr.hd, Tr.sp, inner]
      rfl
    by_cases q : l.hd.ar = l.sp + 1
    · obtain ⟨u, hu⟩ := root_len l r q
      rw [hu, e0, if_pos (by omega)]
      have e1 : full (off + 1) l = inner (off + 1) l := by
        unfold full
        rw [if_neg (by omega), List.nil_append]
      rw [← e1]
      exact (All2.cons ⟨_, rfl, root_rd hu⟩ .nil).append' (hL.append' hR)
    · rw [no_root q, List.nil_append, e0]
      have e1 : (if l.hd.ar ≤ l.sp + 1 then [off + (l.sp + 1)] else []) ++ inner (off + 1) l = full (off + 1) l := by
        unfold full
        by_cases q2 : l.hd.ar ≤ l.sp
        · rw [if_pos (by omega), if_pos q2, show off + (l.sp + 1) = off + 1 + l.sp by omega]
        · rw [if_neg (by omega), if_neg q2]
      rw [← List.append_assoc, e1]
      exact hL.append' hR
theorem heads_all (t : Tr) : All2 (Rd t) (headsF 0 0 t.toks) (reds t) := by
  rw [heads_full]
  exact (heads_reds t 0).mono fun p u ⟨p0, e, h⟩ => by
    obtain rfl : p = p0 := by omega
    exact h
end Mine
/-! part W19 -/
namespace Mine
open PySem PySem.W PyProof.Rows PySem.Calls
theorem fill13 : KK = KK ∧ PySem.Challenge.rw_wf0081_01 = PySem.Challenge.rw_wf0081_01 := by
  k_fill
  exact ⟨rfl, rfl⟩
set_option maxHeartbeats 8000000
section
variable {prog : Program} {w : World} {A : Around} {s : Shared} {env : Env} {h₀ : Heap}
theorem rgi_notSeq {h : Heap} {I : Addr} {a b c : Int} (hit : IsRangeIter h I a b c) : ∀ o, h.get? I = some o → ¬ isSeq o := by
  rintro o e ⟨xs, k, q⟩
  rw [hit] at e
  rw [← Option.some.inj e] at q
  cases q
/-- a for over range(n) -/
theorem for_range {hp : Heap} {tk0 : Nat} {x : Str} {px : Pos} {body : List Stmt} {Q : Flow → Shared → Prop} {r : Addr} {n : Nat} {t u v : Tok} {m : Str → Option Value} (ch : List Addr) (J : Nat → Heap → (Str → Option Value) → Prop)
    (hh : A.handled = none) (hx : env.kindOf x = some .local) (hk : env.scope.kind = .function) (hr : IsRange hp r 0 n 1 t u v) (hn : n ≤ 8)
    (st : ∀ i h h' m, J i h m → Stay hp.objs.size env.locals h h' → J i h' m) (hch : ∀ b ∈ ch, b < hp.objs.size) (F : Fr h₀ env.locals hp m) (hJ : J 0 hp m)
    (turn : ∀ i u h tk m W, W = allBut h₀ (env.locals :: ch) h → i < n → J i h m → Fr h₀ env.locals h (fun y => if y = x then some (.int (i : Nat) u) else m y) → News h₀ env.locals h W →
      wpAny (model prog w) A (execs body env) (TurnF s h₀ env.locals W (J (i + 1)) Q) (fun _ _ => False) { s with heap := h, toks := tk })
    (done : ∀ h tk m, J n h m → Fr h₀ env.locals h m → Q .next { s with heap := h, toks := tk }) :
    wpAny (model prog w) A (pyIter (.ref r)) (fun it s₂ => codeAny (model prog w) A (.forLoop (.Name x px) it body [] env) (fun r s' => match r with | .ok f => Q f s' | .error e => cameBackBy (model prog w) A env (fun _ _ => False) e s') s₂) (fun _ _ => False) { s with heap := hp, toks := tk0 } := by
  have hs : Builtin.Range.small 0 (n : Int) 1 = true := small_one (by omega) (by omega) (by omega) (by omega)
  have hz : Builtin.Range.rangeSize 0 (n : Int) 1 = (n : Int) := by
    have := rangeSize_nat 0 (n : Int)
    rw [this]; omega
  refine wpAny_pyIter_range hr hs ?_
  have fresh : h₀.get? hp.objs.size = none := Fr.fresh F
  have F1 : Fr h₀ env.locals (hp.push { cls := .type "range_iterator", data := .fields #[rawInt 0, rawInt (Builtin.Range.rangeSize 0 n 1), rawInt 1] }) m := F.push _
  have hit0 : IsRangeIter (hp.push { cls := .type "range_iterator", data := .fields #[rawInt 0, rawInt (Builtin.Range.rangeSize 0 n 1), rawInt 1] }) hp.objs.size ((0 : Nat) : Int) ((n : Int) - ((0 : Nat) : Int)) 1 := by
    have := Heap.get?_push_size hp (o := { cls := .type "range_iterator", data := .fields #[rawInt 0, rawInt (Builtin.Range.rangeSize 0 n 1), rawInt 1] }) rfl
    rw [hz] at this ⊢
    simpa using this
  have hj1 : J 0 (hp.push { cls := .type "range_iterator", data := .fields #[rawInt 0, rawInt (Builtin.Range.rangeSize 0 n 1), rawInt 1] }) m := st _ _ _ _ hJ (Stay.of fun b p e => Heap.get?_push_of_some _ e)
  generalize hp.push { cls := .type "range_iterator", data := .fields #[rawInt 0, rawInt (Builtin.Range.rangeSize 0 n 1), rawInt 1] } = h1 at F1 hit0 hj1 ⊢
  have hLI : env.locals ≠ hp.objs.size := Nat.ne_of_lt F.ns.lt
  refine forG (N := hp.objs.size) (ch := ch) (s := { s with heap := h1, toks := tk0 }) (n := n) (St := fun i h => IsRangeIter h hp.objs.size (i : Nat) ((n : Int) - (i : Nat)) 1) (V := fun i a b m m' => a < b ∧ m' = fun y => if y = x then some (.int (i : Nat) a) else m y) J ?_ ?_ ?_ st hit0 F1 hj1 ?_ ?_ ?_
  · intro i h tk m1 hi hit F2 G hG
    refine wpAny_pyNext_range_item (s := { s with heap := h, toks := tk }) hit (by omega) fun h' hit' hs' => ?_
    have F3 : Fr h₀ env.locals h' m1 := fr_but F2 fresh hLI fun b o q e => hs'.extBut b o q e
    refine wpAny_of_eq (show letOwnedTupleGo (.Name x px) (.ref _) _ = pure () by rfl) (wpAny_assign_Name (wpAny_storeName_local hx F3.ns (fun h4 hn4 hs4 => ?_) (by rw [hk]; rfl)))
    have F4 : Fr h₀ env.locals h4 (fun y => if y = x then some (.int (i : Nat) tk) else m1 y) := F3.set hn4 hs4
    have S1 : Stay hp.objs.size env.locals h h' := ⟨seq_but (rgi_notSeq hit) fun b o q e => hs'.extBut b o q e, fun b o q _ e => hs'.extBut b o (Nat.ne_of_lt q) e⟩
    have S2 : Stay hp.objs.size env.locals h' h4 := ⟨fun b o is e => (hs4.2 b fun hb => Mine.Fr.notSeq F3 (by rw [← hb]; exact e) is).trans e, fun b o _ q e => (hs4.2 b q).trans e⟩
    have e1 : ((i + 1 : Nat) : Int) = (i : Int) + 1 := by push_cast; rfl
    have e2 : (n : Int) - ((i : Int) + 1) = (n : Int) - (i : Int) - 1 := by omega
    have hit4 : IsRangeIter h4 hp.objs.size ((i + 1 : Nat) : Int) ((n : Int) - ((i + 1 : Nat) : Int)) 1 := by
      rw [e1, e2]
      exact hs4.extBut _ _ (Ne.symm hLI) hit'
    exact hG h4 _ _ ⟨by show tk < tk + 1 + 1; omega, rfl⟩ (S1.trans S2) hit4 F4
  · intro h tk m1 hit F2 G hG
    refine wpAny_pyNext_range_end (s := { s with heap := h, toks := tk }) hh hit (by omega) fun h' hs' => ?_
    exact hG h' tk ⟨seq_but (rgi_notSeq hit) fun b o q e => hs' b o q e, fun b o q _ e => hs' b o (Nat.ne_of_lt q) e⟩ (fr_but F2 fresh hLI fun b o q e => hs' b o q e)
  · rintro i h h' hit k
    exact k _ _ (Ne.symm hLI) (fun r => Nat.lt_irrefl _ (hch _ r)) hit
  · rintro i h tk tk1 m1 m2 hi ht ⟨hlt, rfl⟩ hj F2 N2
    exact turn i tk1 h _ m1 _ rfl hi hj F2 N2
  · rintro i a b m1 m2 ⟨q, _⟩
    exact Nat.le_of_lt q
  · intro h tk m1 hj F2
    exact wpAny_execs_nil (done h tk m1 hj F2)
end
section
variable {prog : Program} {w : World} {A : Around} {env : Env} {h₀ : Heap}
/-- a while, by a measure; nothing else is asked of a turn -/
theorem while_n {s : Shared} {hp : Heap} {tk : Nat} {test : Expr} {body : List Stmt} {pos : Pos} {Q : Flow → Shared → Prop} {m : Str → Option Value} (J : Nat → Heap → (Str → Option Value) → Prop) (n : Nat)
    (F : Fr h₀ env.locals hp m) (hJ : J n hp m)
    (turn : ∀ n h tk m W, J n h m → Fr h₀ env.locals h m → News h₀ env.locals h W → Kept h₀ env.locals h W →
      wpAny (model prog w) A (isTrue test env (eval test env)) (fun b s₂ => WhlIf b (wpAny (model prog w) A (execs body env) (TurnW s h₀ env.locals [] J n Q) (fun _ _ => False) s₂) (wpAny (model prog w) A (execs [] env) Q (fun _ _ => False) s₂)) (fun _ _ => False) { s with heap := h, toks := tk }) :
    wpAny (model prog w) A (exec (.While test body [] pos) env) Q (fun _ _ => False) { s with heap := hp, toks := tk } := by
  have all : ∀ k, ∀ n h tk m, n < k → J n h m → Fr h₀ env.locals h m → WhlRest prog w A (fun _ _ => False) env test body [] Q k { s with heap := h, toks := tk } := by
    intro k
    induction k with
    | zero => intro n h tk m hn; exact absurd hn (Nat.not_lt_zero _)
    | succ k ih =>
      intro n h tk m hn hj F
      refine whl_turn PassesOwn.never (wpAny_mono (turn n h tk m _ hj F (news_allBut (by simp)) ⟨⟨_, F⟩, rfl⟩) (fun b s₂ h₂ => ?_) (fun _ _ e => e.elim))
      cases b with
      | false => exact WhlIf.no rfl (by unfold WhlIf at h₂; rwa [if_neg Bool.false_ne_true] at h₂)
      | true =>
        refine WhlIf.yes rfl ?_
        unfold WhlIf at h₂
        rw [if_pos rfl] at h₂
        refine wpAny_mono h₂ (fun fl s3 t => ?_) (fun _ _ e => e.elim)
        have fin : Turn s h₀ env.locals [] (fun h m => ∃ k, k < n ∧ J k h m) s3 → WhlRest prog w A (fun _ _ => False) env test body [] Q k s3 := by
          rintro ⟨h3, tk3, m3, news3, rfl, F3, N3, _, n', hn', j3⟩
          exact ih n' h3 tk3 m3 (by omega) j3 F3
        cases fl with
        | next => exact fin t
        | cont => exact fin t
        | brk => exact t
        | ret v => exact t
  exact whl_start (s := { s with heap := hp, toks := tk }) (n + 1) (all (n + 1) n hp tk m (Nat.lt_succ_self n) hJ F)
end
section
variable {prog : Program} {w : World} {A : Around} {E : Value → Shared → Prop} {s : Shared} {h₀ : Heap} {L : Addr} {m : Str → Option Value} {news : List (Addr × Obj)}
/-- a cut of a list of ints -/
theorem cut_ints {value slice : Expr} {l : Addr} {ns ms : List Int} {vl vu : Value} {lo hi : Option Int} {Q : Value → Shared → Prop}
    (F : Fr h₀ L s.heap m) (N : News h₀ L s.heap news) (hl : IntsAt s.heap l ns) (pl : IsPart vl lo) (pu : IsPart vu hi) (e : ∀ vs, IntsAre vs ns → ∃ zs : List Value, slicePick vs.toArray lo hi none = zs.toArray ∧ IntsAre zs ms) (hsz : ns.length ≤ 100000)
    (h : ∀ D zs h', Fr h₀ L h' m → News h₀ L h' ((D, lobj zs) :: news) → IntsAre zs ms → (∀ p ∈ news, p.1 ≠ D) → Q (.ref D) { s with heap := h' })
    (hs : subscripted slice false (.ref l) (.ref s.heap.objs.size) = operate [.ref s.heap.objs.size, .ref l] (getItem (.ref l) (.ref s.heap.objs.size)) := by with_unfolding_all rfl)
    (ht : ∀ r, letTemporaryGo value (.ref l) r = pure () := by intro _; with_unfolding_all rfl) :
    wpAny (model prog w) A (subscriptTail value slice (.ref l) (.ref s.heap.objs.size)) Q E { s with heap := s.heap.push { cls := .type "slice", data := .fields #[vl, vu, .none] } } := by
  obtain ⟨vs, hl, hi⟩ := hl
  obtain ⟨zs, e1, e2⟩ := e vs hi
  refine slice_list F N hl pl pu (fun h' F' N' => h _ zs h' F' (by rw [e1] at N'; exact N') e2 fun p hp => ?_) hs ht (Nat.le_trans (by rw [List.size_toArray, hi.length]; exact hsz) (by decide))
  have := Heap.lt_size (N p hp).1
  exact Nat.ne_of_lt (Nat.lt_succ_of_lt this)
theorem cutI_upto {vs : List Value} {ns : List Int} (y : Int) (h : 0 ≤ y) (hi : IntsAre vs ns) : ∃ zs : List Value, slicePick vs.toArray none (some y) none = zs.toArray ∧ IntsAre zs (ns.take y.toNat) := ⟨_, pick_upto vs y h, hi.take _⟩
theorem cutI_from {vs : List Value} {ns : List Int} (x : Int) (h : 0 ≤ x) (hi : IntsAre vs ns) : ∃ zs : List Value, slicePick vs.toArray (some x) none none = zs.toArray ∧ IntsAre zs (ns.drop x.toNat) := ⟨_, pick_from vs x h, hi.drop _⟩
theorem cutI_run {vs : List Value} {ns : List Int} (x y : Int) (h : 0 ≤ x) (h2 : 0 ≤ y) (hi : IntsAre vs ns) : ∃ zs : List Value, slicePick vs.toArray (some x) (some y) none = zs.toArray ∧ IntsAre zs ((ns.drop x.toNat).take (min y.toNat ns.length - x.toNat)) :=
  ⟨_, pick_run2 vs x y h h2, by rw [hi.length]; exact (hi.drop _).take _⟩
theorem lobj_ints {h : Heap} {D : Addr} {zs : List Value} {ms : List Int} (e : h.get? D = some (lobj zs)) (i : IntsAre zs ms) : IntsAt h D ms := ⟨zs, lobj_is e, i⟩
theorem parts_ne {h : Heap} {pa b : Addr} {ps : List Addr} {n : Nat} {ns : List Int} (e : h.get? pa = some (listOf (ps.map Value.ref).toArray n)) (x : IntsAt h b ns) (hn : ns ≠ []) : b ≠ pa := by
  rintro rfl
  obtain ⟨vs, ⟨o, ho, _, k, hd⟩, hi⟩ := x
  rw [e] at ho
  rw [← Option.some.inj ho] at hd
  have hd' : (ps.map Value.ref).toArray = vs.toArray := by injection hd
  have e2 : ps.map Value.ref = vs := by simpa using congrArg Array.toList hd'
  subst e2
  cases ps with
  | nil => cases hi; exact hn rfl
  | cons p ps => cases hi
theorem ints_turn {h h' : Heap} {pa b : Addr} {m' : Str → Option Value} {news' : List (Addr × Obj)} {ns : List Int} (F : Fr h₀ L h m) (F' : Fr h₀ L h' m') (N' : News h₀ L h' news') (hs : ∀ p ∈ allBut h₀ (L :: [pa]) h, p ∈ news') (x : IntsAt h b ns) (hne : b ≠ pa) : IntsAt h' b ns := by
  obtain ⟨vs, ⟨o, ho, hc, k, hd⟩, hi⟩ := x
  have hL : b ≠ L := fun q => Mine.Fr.notSeq F (by rw [← q]; exact ho) ⟨_, _, hd⟩
  exact ⟨vs, ⟨o, stay_of F F' N' hs b o (fun q => (List.mem_cons.mp q).elim hL fun q => hne (List.mem_singleton.mp q)) ho, hc, k, hd⟩, hi⟩
end
end Mine
/-! part W20 -/
namespace Mine
open PySem PySem.W PyProof.Rows PySem.Calls
theorem fill14 : KK = KK ∧ PySem.Challenge.rw_wf0081_01 = PySem.Challenge.rw_wf0081_01 := by
  k_fill
  exact ⟨rfl, rfl⟩
set_option maxHeartbeats 8000000
local macro_rules | `(tactic| walk_at "exec While Compare cons nil") => `(tactic| (refine stop_ ?_))
local macro_rules | `(tactic| walk_at "exec For") => `(tactic| (refine stop_ ?_))
local macro_rules | `(tactic| walk_at "exec For Name Call cons nil") => `(tactic| (refine stop_ ?_))
local macro_rules | `(tactic| walk_at "exec If") => `(tactic| (refine stop_ ?_))
local macro_rules | `(tactic| walk_at "call ref") => `(tactic| (refine stop_ ?_))
local macro_rules | `(tactic| walk_at "pyIter ref") => `(tactic| (refine stop_ ?_))
local macro_rules | `(tactic| walk_at "compareOp NotEq ref ref") => `(tactic| (refine stop_ ?_))
local macro_rules | `(tactic| walk_at "call builtin:len") => `(tactic| (refine stop_ ?_))
local macro_rules | `(tactic| walk_at "WhlIf") => `(tactic| (refine stop_ ?_))
local macro_rules | `(tactic| walk_at "subscriptTail Name BinOp ref int") => `(tactic| (refine stop_ ?_))
local macro_rules | `(tactic| walk_at "subscriptTail Name Name ref int") => `(tactic| (refine stop_ ?_))
local macro_rules | `(tactic| walk_at "subscriptTail Name Constant ref int") => `(tactic| (refine item_lst (by walk_at "lst_now") (by decide) (by decide) rfl ?_))
local macro_rules | `(tactic| walk_at "subscriptTail Name Slice ref ref") => `(tactic| (refine stop_ ?_))
local macro_rules | `(tactic| walk_at "call builtin:list.append") => `(tactic| (refine stop_ ?_))
theorem headsF_len : ∀ (gs : List Sg) (off run : Nat), (headsF off run gs).length ≤ gs.length
  | [], _, _ => Nat.le_refl _
  | none :: r, off, run => by have := headsF_len r (off + 1) (run + 1); simp only [headsF, List.length_cons]; omega
  | some x :: r, off, run => by
    have := headsF_len r (off + 1) 0
    simp only [headsF, List.length_cons]
    split <;> (try simp only [List.length_cons]) <;> omega
/-- the row up to the i-th part -/
noncomputable def preT (A : List Sg) (x : Le) (args : List Tr) (i : Nat) : List Int := (A ++ (List.replicate x.ar none ++ (some x :: toksL (args.take i)))).map Sg.sym
theorem preT_zero (A : List Sg) (x : Le) (args : List Tr) : ((preT A x args 0).length : Nat) = A.length + x.ar + 1 := by
  simp [preT, toksL]; omega
theorem toksL_snoc {args : List Tr} {i : Nat} {y : Tr} (h : args[i]? = some y) : toksL (args.take (i + 1)) = toksL (args.take i) ++ y.toks := by
  rw [take_snoc h]; simp [toksL]
theorem preT_succ {A : List Sg} {x : Le} {args : List Tr} {i : Nat} {y : Tr} (h : args[i]? = some y) : (preT A x args (i + 1)).length = (preT A x args i).length + y.flat.length := by
  simp only [preT, toksL_snoc h, y.toks_flat, List.length_map, List.length_append, List.length_cons]; omega
theorem toksL_split {args : List Tr} {i : Nat} {y : Tr} (h : args[i]? = some y) : toksL args = toksL (args.take i) ++ (y.toks ++ toksL (args.drop (i + 1))) := by
  obtain ⟨q, rfl⟩ := List.getElem?_eq_some_iff.mp h
  have e : args = args.take i ++ args[i] :: args.drop (i + 1) := by rw [← List.drop_eq_getElem_cons q, List.take_append_drop]
  have e2 : toksL args = toksL (args.take i ++ args[i] :: args.drop (i + 1)) := congrArg toksL e
  rw [e2]
  simp only [toksL, List.map_append, List.map_cons, List.flatten_append, List.flatten_cons]
theorem row_split {t : Tr} {A B : List Sg} {x : Le} {args : List Tr} (hd : t.toks = A ++ (List.replicate x.ar none ++ (some x :: (toksL args ++ B)))) {i : Nat} {y : Tr} (h : args[i]? = some y) :
    t.toks.map Sg.sym = preT A x args i ++ y.flat ++ (toksL (args.drop (i + 1)) ++ B).map Sg.sym := by
  rw [hd, toksL_split h, y.toks_flat, preT]
  simp
theorem mid_cut (a b c : List Int) : (((a ++ b ++ c).drop ((a.length : Nat) : Int).toNat).take (min ((a.length + b.length : Nat) : Int).toNat (a ++ b ++ c).length - ((a.length : Nat) : Int).toNat)) = b := by
  simp only [Int.toNat_natCast, List.length_append]
  rw [show min (a.length + b.length) (a.length + b.length + c.length) - a.length = b.length by omega, List.append_assoc, List.drop_left, List.take_left]
/-- behind the if: made -/
noncomputable def MadeIs (s : Shared) (h₀ : Heap) (L : Addr) (names : List (Str × Value)) (ra : Addr) (row ms : List Int) (fl : Flow) (s' : Shared) : Prop :=
  ∃ (mk : Addr) (h : Heap) (tk : Nat) (m : Str → Option Value), fl = .next ∧ s' = { s with heap := h, toks := tk } ∧ Fr h₀ L h m ∧ (∀ p ∈ names, m p.1 = some p.2) ∧ m "made" = some (.ref mk) ∧ IntsAt h mk ms ∧ IntsAt h ra row
/-- the turns choose steps that are S -/
noncomputable def Picks (S : Tr → Tr → Prop) (tn : List Int) : Prop := ∀ (t u : Tr) (k : Nat) (x : Int), tn[((k : Int).fmod tn.length).toNat]? = some x → (reds t)[(x.fmod (reds t).length).toNat]? = some u → S t u
theorem does_stepped (w : World) (S : Tr → Tr → Prop) (hSt : ∀ t u, S t u → Step t u) (tn : List Int) (hS : Picks S tn) (ht0 : 0 < tn.length) (ht8 : tn.length ≤ 8) (htb : ∀ x ∈ tn, -1000000 ≤ x ∧ x ≤ 1000000) (t0 : Tr) (hz : t0.size ≤ 8) (a a2 : Addr) :
    Does w 210 20 (fun h vs => vs = [.ref a, .ref a2] ∧ IntsAt h a (t0.toks.map Sg.sym) ∧ IntsAt h a2 tn)
      (fun _ _ h' r => ∃ b k u t1 t2, r = .ref b ∧ IsTup h' b #[.str u.text t1, .int (k : Nat) t2] ∧ Many S t0 k u ∧ NF u) := by
  refine does_of (binds := fun vs => (["drawn", "turns"] : List Str).zip vs) (look_stepped _) (by kernel_rfl) ?_ ?_ (by kernel_rfl) (by kernel_rfl) (by kernel_rfl) (by decide +kernel)
  · rintro h _ ⟨rfl, _⟩
    exact ⟨by kernel_rfl, by kernel_rfl⟩
  · rintro ⟨hdl, dp, frs, gd, un⟩ s _ h₁ tk base outs mean mg mb C B X T ⟨rfl, hA, hA2⟩ F
    obtain rfl : hdl = none := (C _ _ F).hd
    obtain rfl : frs = some outs := B.stack
    w_on
    have N : News s.heap s.heap.objs.size h₁ [] := News.nil
    k_steps
    refine ⟨use_st (does_getitem w _) C (by omega) (by assumption) (by assumption) rfl ?_⟩
    rintro _ h2 tk2 htk2 F2 N2 st2 ⟨t2, rfl⟩
    k_steps
    rename Fr _ _ _ _ => F3
    rename News _ _ _ _ => N3
    refine ⟨use_s (does_heads w a t0.toks (by have := t0.toks_len; omega)) C (by omega) F3 N3 ⟨rfl, hA.keeps F3.keep⟩ ?_⟩
    rintro _ h4 tk4 W4 F4 N4 K4 st4 ⟨ha, rfl, hh4⟩
    k_steps
    rename Fr _ _ _ _ => F5
    rename News _ _ _ _ => N5
    have sq5 := K4.seq F5 N5 (by walk_at "w_sub")
    obtain ⟨vs2, hl2, hi2⟩ := hA2
    have hvl2 := hi2.length
    refine ⟨while_n (J := fun n h m => ∃ (t : Tr) (ra ha : Addr) (k : Nat) (q : Int) (ta tk : Tok), n = t.size ∧ m "at" = some (.int 49 ta) ∧ m "row" = some (.ref ra) ∧ m "heads" = some (.ref ha) ∧ m "turns" = some (.ref a2) ∧ m "steps" = some (.int q tk) ∧ q = k ∧
        IntsAt h ra (t.toks.map Sg.sym) ∧ IntsAt h ha ((headsF 0 0 t.toks).map fun n : Nat => (n : Int)) ∧ Many S t0 k t) t0.size F5 ⟨t0, a, ha, 0, _, _, _, rfl, rfl, rfl, rfl, rfl, rfl, rfl, hA.keeps F5.keep, hh4.seqStay sq5, .nil _⟩ ?_⟩
    clear F5 N5 sq5 K4 hh4
    rintro n h tk m W ⟨t, ra, ha, k, q, ta, tks, rfl, m1, m2, m3, m4, m5, rfl, hrow, hhd, hM⟩ F1 N1 K
    have F2 := fr_puts _ F1 (allc m1 (allc m2 (allc m3 (allc m4 (all1 m5)))))
    simp only [puts] at F2
    have zM := hM.size hSt
    have zt := t.toks_len
    have htl : t.toks.length ≤ 15 := by omega
    clear F1
    obtain ⟨vh, hlh, hih⟩ := hhd
    k_steps
    rename Fr _ _ _ _ => F3
    rename News _ _ _ _ => N3
    have sq3 := K.seq F3 N3 (by walk_at "w_sub")
    refine ⟨ke_ne_ints (Mine.IsList.seqStay hlh sq3) (News.isList N3 (by walk_at "mem_now")) hih .nil (by have := (C _ _ F3).units; omega) ?_⟩
    by_cases hnil : headsF 0 0 t.toks = []
    · have hr : reds t = [] := by
        have := (heads_all t).len
        rw [hnil] at this
        exact List.length_eq_zero_iff.mp this.symm
      rw [hnil]
      k_steps
      refine ⟨WhlIf.no rfl ?_⟩
      k_steps
      refine ⟨use_s (does_shown w ra t.toks (by omega)) C (by omega) F3 N3 ⟨rfl, hrow.seqStay sq3⟩ ?_⟩
      rintro _ h7 tk7 W7 F7 N7 K7 st7 ⟨tx, t7, rfl, htx⟩
      obtain rfl : tx = t.text := Str.eq_of (htx.trans t.toks_text.symm)
      k_steps
      rename Fr _ _ _ _ => F8
      rename News _ _ _ _ => N8
      exact Fin1.intro F8 ⟨_, k, t, _, _, rfl, ⟨_, (N8 _ (.head _)).1, rfl, _, rfl⟩, hM, reds_nil.mp hr⟩
    · have e0 : (!decide ((headsF 0 0 t.toks).map (fun n : Nat => (n : Int)) = [])) = true := by simpa using hnil
      rw [e0]
      have hrl := (heads_all t).len
      have hrp : 0 < (reds t).length := by
        rw [← hrl]
        exact List.length_pos_iff.mpr hnil
      have htn0 : (0 : Int) < (tn.length : Int) := by omega
      have hi1 := Int.fmod_nonneg_of_pos (k : Int) htn0
      have hi1b := Int.fmod_lt_of_pos (k : Int) htn0
      obtain ⟨x1, hx1⟩ : ∃ x1, tn[((k : Int).fmod tn.length).toNat]? = some x1 := ⟨tn[((k : Int).fmod tn.length).toNat], List.getElem?_eq_getElem (by omega)⟩
      have hrn0 : (0 : Int) < ((reds t).length : Int) := by omega
      have hi2' := Int.fmod_nonneg_of_pos x1 hrn0
      have hi2b := Int.fmod_lt_of_pos x1 hrn0
      obtain ⟨p, hp⟩ : ∃ p, (headsF 0 0 t.toks)[(x1.fmod (reds t).length).toNat]? = some p := ⟨(headsF 0 0 t.toks)[(x1.fmod (reds t).length).toNat]'(by omega), List.getElem?_eq_getElem _⟩
      obtain ⟨u, hu, A, Bk, x, args, hargs, hdec, hpp, hut⟩ := (heads_all t).get _ hp
      have hSu := hS t u k x1 hx1 hu
      have hx1b := htb x1 (List.mem_of_getElem? hx1)
      have hlen1 : (reds t).length ≤ 15 := by
        rw [← hrl]
        have := headsF_len t.toks 0 0
        omega
      have hrowx : (t.toks.map Sg.sym)[p]? = some x.sym := by
        rw [List.getElem?_map, hdec, hpp, List.getElem?_append_right (by omega), List.getElem?_append_right (by simp)]
        simp [Sg.sym]
      have hpl : p < 15 := by
        have := (List.getElem?_eq_some_iff.mp hrowx).1
        rw [List.length_map] at this
        omega
      have x3 := x.ar_le
      k_steps
      refine ⟨WhlIf.yes rfl ?_⟩
      k_steps
      refine ⟨call_len_list (Fr.lst (by assumption) hl2) (by simp; omega) ?_⟩
      rw [show vs2.toArray.size = tn.length by simp [hvl2]]
      k_steps
      refine ⟨item_ints (ns := tn) ⟨vs2, Fr.lst (by assumption) hl2, hi2⟩ hi1 (by omega) hx1 (fun tx1 => ?_)⟩
      k_steps
      refine ⟨call_len_list (Mine.IsList.seqStay hlh sq3) (by simp only [List.size_toArray]; rw [hih.length, List.length_map]; omega) ?_⟩
      rw [show vh.toArray.size = (reds t).length by rw [List.size_toArray, hih.length, List.length_map, hrl]]
      k_steps
      refine ⟨item_ints (ns := (headsF 0 0 t.toks).map fun n : Nat => (n : Int)) ⟨vh, Mine.IsList.seqStay hlh sq3, hih⟩ hi2' (by omega) (x := (p : Int)) (by rw [List.getElem?_map, hp]; rfl) (fun tx2 => ?_)⟩
      k_steps
      rename Fr _ _ _ _ => F4
      rename News _ _ _ _ => N4
      have sq4 := K.seq F4 N4 (by walk_at "w_sub")
      refine ⟨item_ints (hrow.seqStay sq4) (Int.natCast_nonneg p) (by omega) (x := x.sym) (by simpa using hrowx) (fun tx3 => ?_)⟩
      k_steps
      refine ⟨use_s (does_sub w _ _ _ _) C (by omega) F4 N4 ⟨rfl, by cases x <;> decide, by decide⟩ ?_⟩
      rintro _ h5 tk5 W5 F5 N5 K5 st5 ⟨t5, rfl⟩
      k_steps
      rename Fr _ _ _ _ => F6
      rename News _ _ _ _ => N6
      rw [show (if x.sym - 255 < 3 then x.sym - 255 else 3) = (x.ar : Int) by cases x <;> rfl] at F6
      dsimp only at F6
      have sq6 : SeqStay h _ := sq4.trans ((SeqStay.of st5).trans (K5.seq F6 N6 (by walk_at "w_sub")))
      clear K5 sq4 sq3
      rename Addr => pa
      have hpa := N6 _ (.head _)
      dsimp only at hpa
      refine ⟨wpAny_For ?_⟩
      k_steps
      rename Fr _ _ _ _ => F7
      rename News _ _ _ _ => N7
      rename (∀ (b : Addr) (o : Obj), _ → _) => hk7
      dsimp only at hk7
      have hpaN := Heap.lt_size (hk7 _ _ hpa.1)
      have pz := preT_zero A x args
      refine ⟨for_range [pa] (J := fun i h m => ∃ (ps : List Addr) (cn : Nat) (q : Int) (tq ttk : Tok), m "at" = some (.int 49 ta) ∧ m "row" = some (.ref ra) ∧ m "turns" = some (.ref a2) ∧ m "steps" = some (.int (k : Nat) tks) ∧ m "head" = some (.int (p : Nat) tx2) ∧ m "takes" = some (.int (x.ar : Nat) ttk) ∧ m "parts" = some (.ref pa) ∧ m "place" = some (.int q tq) ∧
          q = ((preT A x args i).length : Nat) ∧ h.get? pa = some (listOf (ps.map Value.ref).toArray cn) ∧ All2 (fun b u => IntsAt h b (u.toks.map Sg.sym)) ps (args.take i) ∧ IntsAt h ra (t.toks.map Sg.sym))
          rfl rfl rfl (by assumption) (by omega) ?_ (by simpa using hpaN) F7 ⟨[], 0, _, _, _, rfl, rfl, rfl, rfl, rfl, rfl, rfl, rfl, by rw [pz, hpp]; push_cast; rfl, hk7 _ _ hpa.1, .nil, (hrow.seqStay sq6).seqStay (SeqStay.of hk7)⟩ ?_ ?_⟩
      · rintro i h h' m ⟨ps, cn, q, tq, ttk, e1, e2, e3, e4, e5, e6, e7, e8, e9, e10, e11, e12⟩ st
        exact ⟨ps, cn, q, tq, ttk, e1, e2, e3, e4, e5, e6, e7, e8, e9, st.old _ _ hpaN hpa.2.1 e10, e11.mono fun _ _ z => z.seqStay st.seq, e12.seqStay st.seq⟩
      · clear F7 N7
        rintro i ui h8 tk8 m8 W8 hW8 hi8 ⟨ps, cn, q, tq, ttk, e1, e2, e3, e4, e5, e6, e7, e8, rfl, e10, e11, e12⟩ F8 N8
        obtain ⟨y, hy⟩ : ∃ y, args[i]? = some y := ⟨args[i], List.getElem?_eq_getElem (by omega)⟩
        have F9 := fr_for _ F8 (allc (x := "at") e1 (allc (x := "row") e2 (allc (x := "turns") e3 (allc (x := "steps") e4 (allc (x := "head") e5 (allc (x := "takes") e6 (allc (x := "parts") e7 (all1 (x := "place") e8))))))))
        simp only [puts] at F9
        have F0 : True → Fr s.heap s.heap.objs.size h8 _ := fun _ => F9
        have hWp : ∀ p ∈ W8, p.1 ≠ pa := by
          subst hW8
          rintro ⟨b, o⟩ hp rfl
          exact (mem_allBut.mp hp).2.2 (by simp)
        have N9 := row_news N8 e10 hpa.2.1 hpa.2.2
        clear F8 N8
        have hsp := row_split hdec hy
        have hlen := congrArg List.length hsp
        simp only [List.length_map, List.length_append] at hlen
        have hi3 := e11.len
        rw [List.length_take] at hi3
        k_steps
        refine ⟨use_st (does_behind w ra tq (preT A x args i) ((toksL (args.drop (i + 1)) ++ Bk).map Sg.sym) y (by simp only [List.length_map, List.length_append]; omega)) C (by omega) (by assumption) (by assumption) ⟨rfl, by rw [← hsp]; exact e12⟩ ?_⟩
        rintro _ h10 tk10 htk10 F10 N10 st10 ⟨t10, rfl⟩
        k_steps
        rename Fr _ _ _ _ => F11
        rename News _ _ _ _ => N11
        have hne0 : ra ≠ pa := parts_ne e10 e12 (by
          intro q
          have := congrArg List.length q
          rw [List.length_map, List.length_nil] at this
          omega)
        have hra11 := ints_turn (F0 trivial) F11 N11 (fun p hp => List.mem_cons_of_mem _ (hW8 ▸ hp)) e12 hne0
        refine ⟨cut_ints F11 N11 hra11 (.int _ _) (.int _ _) (fun vs h => cutI_run _ _ (Int.natCast_nonneg _) (Int.natCast_nonneg _) h) (by rw [List.length_map]; omega) ?_⟩
        rintro D zs h12 F12 N12 hzs hne12
        rw [hsp, mid_cut] at hzs
        k_steps
        refine ⟨append_K (by assumption) (by assumption) (.tail (Ne.symm (hne12 _ (.head _))) (.head hWp)) ?_ (by rw [sizeLine_eq]; simp only [List.size_toArray, List.length_map]; omega)⟩
        intro h13 F13 N13
        k_steps
        rename Fr _ _ _ _ => F14
        rename News _ _ _ _ => N14
        dsimp only at F14 N14 ⊢
        have hs14 : ∀ p ∈ allBut s.heap (s.heap.objs.size :: [pa]) h8, p ∈ (D, lobj zs) :: (pa, listOf ((ps.map Value.ref).toArray.push (.ref D)) (cn + 1)) :: W8 := fun p hp => List.mem_cons_of_mem _ (List.mem_cons_of_mem _ (hW8 ▸ hp))
        refine Turn.intro F14 N14 (fun p hp => List.mem_cons_of_mem _ (List.mem_cons_of_mem _ hp)) ⟨ps ++ [D], cn + 1, _, _, ttk, rfl, rfl, rfl, rfl, rfl, rfl, rfl, rfl, by rw [preT_succ hy], ?_, ?_, ints_turn (F0 trivial) F14 N14 hs14 e12 hne0⟩
        · rw [(N14 _ (.tail _ (.head _))).1]; simp
        · rw [take_snoc hy]
          refine (e11.mono fun b u hb => ints_turn (F0 trivial) F14 N14 hs14 hb (parts_ne e10 hb ?_)).append' (.cons (by rw [← y.toks_flat]; exact lobj_ints (N14 _ (.head _)).1 hzs) .nil)
          intro q
          have := congrArg List.length q
          have := u.toks_len
          have := u.size_pos
          simp only [List.length_map, List.length_nil] at *
          omega
      · rintro h8 tk8 m8 ⟨ps, cn, q, tq, ttk, e1, e2, e3, e4, e5, e6, e7, e8, rfl, e10, e11, e12⟩ F8
        clear F7 N7
        rw [List.take_of_length_le (by omega)] at e11
        have F9 := fr_puts _ F8 (allc (x := "at") e1 (allc (x := "row") e2 (allc (x := "turns") e3 (allc (x := "steps") e4 (allc (x := "head") e5 (allc (x := "takes") e6 (allc (x := "parts") e7 (all1 (x := "place") e8))))))))
        simp only [puts] at F9
        have N9 : News s.heap s.heap.objs.size h8 (allBut s.heap [s.heap.objs.size] h8) := news_allBut (by simp)
        have K9 : Kept s.heap s.heap.objs.size h8 (allBut s.heap [s.heap.objs.size] h8) := ⟨⟨_, F9⟩, rfl⟩
        generalize allBut s.heap [s.heap.objs.size] h8 = W9 at N9 K9
        clear F8
        have hparts : h8.IsList pa (ps.map Value.ref).toArray := ⟨_, e10, rfl, _, rfl⟩
        have hpsl := e11.len
        k_steps
        have hra := e12
        refine ⟨wpAny_mono (Q := MadeIs s s.heap s.heap.objs.size [(Str.ofString "at", .int 49 ta), (Str.ofString "row", .ref ra), (Str.ofString "turns", .ref a2), (Str.ofString "steps", .int (k : Nat) tks), (Str.ofString "head", .int (p : Nat) tx2), (Str.ofString "takes", .int (x.ar : Nat) ttk), (Str.ofString "place", .int ((preT A x args x.ar).length : Nat) tq)] ra (t.toks.map Sg.sym) ((contract x args).toks.map Sg.sym)) ?_ (fun fl s' hx => ?_) (fun _ _ e => e)⟩
        · clear hSu hut
          cases x with
          | i =>
            obtain ⟨b0, ps, y0, args, rfl, rfl, hb0, e11⟩ := e11.uncons (by simp only [Le.ar, List.length_cons] at hargs; omega)
            obtain rfl : args = [] := by
              cases args with
              | nil => rfl
              | cons _ _ => simp only [Le.ar, List.length_cons] at hargs; omega
            obtain rfl : ps = [] := by
              cases e11; rfl
            rw [← Tr.toks_flat] at hb0
            have hrl0 := congrArg List.length hdec
            simp only [List.length_append, List.length_cons, toksL, List.map_cons, List.map_nil, List.flatten_cons, List.flatten_nil, List.length_nil] at hrl0
            have hf0 : y0.flat.length = y0.toks.length := by rw [Tr.toks_flat, List.length_map]
            have hpW : LstWas s.heap s.heap.objs.size W9 pa ([b0].map Value.ref) := ⟨h8, K9, hparts⟩
            refine wpAny_If ?_
            k_steps
            refine ⟨item_ints hra (Int.natCast_nonneg p) (by omega) (x := (256 : Int)) (by simpa [Sg.sym, Le.sym] using hrowx) (fun tx4 => ?_)⟩
            k_steps
            refine ⟨wpAny_If ?_⟩
            k_steps
            refine ⟨item_ints hra (Int.natCast_nonneg p) (by omega) (x := (256 : Int)) (by simpa [Sg.sym, Le.sym] using hrowx) (fun tx5 => ?_)⟩
            k_steps
            rename Fr _ _ _ _ => Fz
            rename News _ _ _ _ => Nz
            dsimp only at Fz Nz ⊢
            have sz := K9.seq Fz Nz (by walk_at "w_sub")
            refine ⟨_, _, _, _, rfl, rfl, Fz, ?_, rfl, ?_, hra.seqStay sz⟩
            · intro q hq
              simp only [List.mem_cons, List.mem_nil_iff, or_false] at hq
              rcases hq with rfl | rfl | rfl | rfl | rfl | rfl | rfl <;> rfl
            · have hz := hb0.seqStay sz
              simpa [contract, Tr.toks, Tr.toks_flat, Sg.sym] using hz
          | k =>
            obtain ⟨b0, ps, y0, args, rfl, rfl, hb0, e11⟩ := e11.uncons (by simp only [Le.ar, List.length_cons] at hargs; omega)
            obtain ⟨b1, ps, y1, args, rfl, rfl, hb1, e11⟩ := e11.uncons (by simp only [Le.ar, List.length_cons] at hargs; omega)
            obtain rfl : args = [] := by
              cases args with
              | nil => rfl
              | cons _ _ => simp only [Le.ar, List.length_cons] at hargs; omega
            obtain rfl : ps = [] := by
              cases e11; rfl
            rw [← Tr.toks_flat] at hb0
            rw [← Tr.toks_flat] at hb1
            have hrl0 := congrArg List.length hdec
            simp only [List.length_append, List.length_cons, toksL, List.map_cons, List.map_nil, List.flatten_cons, List.flatten_nil, List.length_nil] at hrl0
            have hf0 : y0.flat.length = y0.toks.length := by rw [Tr.toks_flat, List.length_map]
            have hf1 : y1.flat.length = y1.toks.length := by rw [Tr.toks_flat, List.length_map]
            have hpW : LstWas s.heap s.heap.objs.size W9 pa ([b0, b1].map Value.ref) := ⟨h8, K9, hparts⟩
            refine wpAny_If ?_
            k_steps
            refine ⟨item_ints hra (Int.natCast_nonneg p) (by omega) (x := (257 : Int)) (by simpa [Sg.sym, Le.sym] using hrowx) (fun tx4 => ?_)⟩
            k_steps
            refine ⟨wpAny_If ?_⟩
            k_steps
            refine ⟨item_ints hra (Int.natCast_nonneg p) (by omega) (x := (257 : Int)) (by simpa [Sg.sym, Le.sym] using hrowx) (fun tx5 => ?_)⟩
            k_steps
            rename Fr _ _ _ _ => Fz
            rename News _ _ _ _ => Nz
            dsimp only at Fz Nz ⊢
            have sz := K9.seq Fz Nz (by walk_at "w_sub")
            refine ⟨_, _, _, _, rfl, rfl, Fz, ?_, rfl, ?_, hra.seqStay sz⟩
            · intro q hq
              simp only [List.mem_cons, List.mem_nil_iff, or_false] at hq
              rcases hq with rfl | rfl | rfl | rfl | rfl | rfl | rfl <;> rfl
            · have hz := hb0.seqStay sz
              simpa [contract, Tr.toks, Tr.toks_flat, Sg.sym] using hz
          | b =>
            obtain ⟨b0, ps, y0, args, rfl, rfl, hb0, e11⟩ := e11.uncons (by simp only [Le.ar, List.length_cons] at hargs; omega)
            obtain ⟨b1, ps, y1, args, rfl, rfl, hb1, e11⟩ := e11.uncons (by simp only [Le.ar, List.length_cons] at hargs; omega)
            obtain ⟨b2, ps, y2, args, rfl, rfl, hb2, e11⟩ := e11.uncons (by simp only [Le.ar, List.length_cons] at hargs; omega)
            obtain rfl : args = [] := by
              cases args with
              | nil => rfl
              | cons _ _ => simp only [Le.ar, List.length_cons] at hargs; omega
            obtain rfl : ps = [] := by
              cases e11; rfl
            rw [← Tr.toks_flat] at hb0
            rw [← Tr.toks_flat] at hb1
            rw [← Tr.toks_flat] at hb2
            have hrl0 := congrArg List.length hdec
            simp only [List.length_append, List.length_cons, toksL, List.map_cons, List.map_nil, List.flatten_cons, List.flatten_nil, List.length_nil] at hrl0
            have hf0 : y0.flat.length = y0.toks.length := by rw [Tr.toks_flat, List.length_map]
            have hf1 : y1.flat.length = y1.toks.length := by rw [Tr.toks_flat, List.length_map]
            have hf2 : y2.flat.length = y2.toks.length := by rw [Tr.toks_flat, List.length_map]
            have hpW : LstWas s.heap s.heap.objs.size W9 pa ([b0, b1, b2].map Value.ref) := ⟨h8, K9, hparts⟩
            refine wpAny_If ?_
            k_steps
            refine ⟨item_ints hra (Int.natCast_nonneg p) (by omega) (x := (258 : Int)) (by simpa [Sg.sym, Le.sym] using hrowx) (fun tx4 => ?_)⟩
            k_steps
            rename Fr _ _ _ _ => Fa1
            rename News _ _ _ _ => Na1
            have sa1 := K9.seq Fa1 Na1 (by walk_at "w_sub")
            refine ⟨use_s (does_addL w _ _ [49] y0.flat) C (by omega) Fa1 Na1 ⟨rfl, ⟨_, News.isList Na1 (by walk_at "mem_now"), .cons 49 _ .nil⟩, hb0.seqStay sa1, by (try simp only [List.length_append, List.length_cons, List.length_nil]); omega, by (try simp only [List.length_append, List.length_cons, List.length_nil]); omega⟩ ?_⟩
            rintro _ hc1 tkc1 Wc1 Fc1 Nc1 Kc1 stc1 ⟨D1, rfl, hD1⟩
            have sb1 := sa1.trans (SeqStay.of stc1)
            replace hra := hra.seqStay sb1
            replace hb1 := hb1.seqStay sb1
            replace hb2 := hb2.seqStay sb1
            replace hparts := Mine.IsList.seqStay hparts sb1
            have hpW1 : LstWas s.heap s.heap.objs.size Wc1 pa ([b0, b1, b2].map Value.ref) := ⟨hc1, Kc1, hparts⟩
            k_steps
            rename Fr _ _ _ _ => Fa2
            rename News _ _ _ _ => Na2
            have sa2 := Kc1.seq Fa2 Na2 (by walk_at "w_sub")
            refine ⟨use_s (does_addL w _ _ [49] y1.flat) C (by omega) Fa2 Na2 ⟨rfl, ⟨_, News.isList Na2 (by walk_at "mem_now"), .cons 49 _ .nil⟩, hb1.seqStay sa2, by (try simp only [List.length_append, List.length_cons, List.length_nil]); omega, by (try simp only [List.length_append, List.length_cons, List.length_nil]); omega⟩ ?_⟩
            rintro _ hc2 tkc2 Wc2 Fc2 Nc2 Kc2 stc2 ⟨D2, rfl, hD2⟩
            have sb2 := sa2.trans (SeqStay.of stc2)
            replace hra := hra.seqStay sb2
            replace hb2 := hb2.seqStay sb2
            replace hD1 := hD1.seqStay sb2
            replace hparts := Mine.IsList.seqStay hparts sb2
            have hpW2 : LstWas s.heap s.heap.objs.size Wc2 pa ([b0, b1, b2].map Value.ref) := ⟨hc2, Kc2, hparts⟩
            k_steps
            rename Fr _ _ _ _ => Fa3
            rename News _ _ _ _ => Na3
            have sa3 := Kc2.seq Fa3 Na3 (by walk_at "w_sub")
            refine ⟨use_s (does_addL w _ _ ([49] ++ y1.flat) y2.flat) C (by omega) Fa3 Na3 ⟨rfl, hD2.seqStay sa3, hb2.seqStay sa3, by (try simp only [List.length_append, List.length_cons, List.length_nil]); omega, by (try simp only [List.length_append, List.length_cons, List.length_nil]); omega⟩ ?_⟩
            rintro _ hc3 tkc3 Wc3 Fc3 Nc3 Kc3 stc3 ⟨D3, rfl, hD3⟩
            have sb3 := sa3.trans (SeqStay.of stc3)
            replace hra := hra.seqStay sb3
            replace hD1 := hD1.seqStay sb3
            replace hparts := Mine.IsList.seqStay hparts sb3
            have hpW3 : LstWas s.heap s.heap.objs.size Wc3 pa ([b0, b1, b2].map Value.ref) := ⟨hc3, Kc3, hparts⟩
            k_steps
            rename Fr _ _ _ _ => Fa4
            rename News _ _ _ _ => Na4
            have sa4 := Kc3.seq Fa4 Na4 (by walk_at "w_sub")
            refine ⟨use_s (does_addL w _ _ ([49] ++ y0.flat) ([49] ++ y1.flat ++ y2.flat)) C (by omega) Fa4 Na4 ⟨rfl, hD1.seqStay sa4, hD3.seqStay sa4, by (try simp only [List.length_append, List.length_cons, List.length_nil]); omega, by (try simp only [List.length_append, List.length_cons, List.length_nil]); omega⟩ ?_⟩
            rintro _ hc4 tkc4 Wc4 Fc4 Nc4 Kc4 stc4 ⟨D4, rfl, hD4⟩
            have sb4 := sa4.trans (SeqStay.of stc4)
            replace hra := hra.seqStay sb4
            replace hparts := Mine.IsList.seqStay hparts sb4
            have hpW4 : LstWas s.heap s.heap.objs.size Wc4 pa ([b0, b1, b2].map Value.ref) := ⟨hc4, Kc4, hparts⟩
            k_steps
            rename Fr _ _ _ _ => Fz
            rename News _ _ _ _ => Nz
            dsimp only at Fz Nz ⊢
            have sz := Kc4.seq Fz Nz (by walk_at "w_sub")
            refine ⟨_, _, _, _, rfl, rfl, Fz, ?_, rfl, ?_, hra.seqStay sz⟩
            · intro q hq
              simp only [List.mem_cons, List.mem_nil_iff, or_false] at hq
              rcases hq with rfl | rfl | rfl | rfl | rfl | rfl | rfl <;> rfl
            · have hz := hD4.seqStay sz
              simpa [contract, Tr.toks, Tr.toks_flat, Sg.sym] using hz
          | c =>
            obtain ⟨b0, ps, y0, args, rfl, rfl, hb0, e11⟩ := e11.uncons (by simp only [Le.ar, List.length_cons] at hargs; omega)
            obtain ⟨b1, ps, y1, args, rfl, rfl, hb1, e11⟩ := e11.uncons (by simp only [Le.ar, List.length_cons] at hargs; omega)
            obtain ⟨b2, ps, y2, args, rfl, rfl, hb2, e11⟩ := e11.uncons (by simp only [Le.ar, List.length_cons] at hargs; omega)
            obtain rfl : args = [] := by
              cases args with
              | nil => rfl
              | cons _ _ => simp only [Le.ar, List.length_cons] at hargs; omega
            obtain rfl : ps = [] := by
              cases e11; rfl
            rw [← Tr.toks_flat] at hb0
            rw [← Tr.toks_flat] at hb1
            rw [← Tr.toks_flat] at hb2
            have hrl0 := congrArg List.length hdec
            simp only [List.length_append, List.length_cons, toksL, List.map_cons, List.map_nil, List.flatten_cons, List.flatten_nil, List.length_nil] at hrl0
            have hf0 : y0.flat.length = y0.toks.length := by rw [Tr.toks_flat, List.length_map]
            have hf1 : y1.flat.length = y1.toks.length := by rw [Tr.toks_flat, List.length_map]
            have hf2 : y2.flat.length = y2.toks.length := by rw [Tr.toks_flat, List.length_map]
            have hpW : LstWas s.heap s.heap.objs.size W9 pa ([b0, b1, b2].map Value.ref) := ⟨h8, K9, hparts⟩
            refine wpAny_If ?_
            k_steps
            refine ⟨item_ints hra (Int.natCast_nonneg p) (by omega) (x := (259 : Int)) (by simpa [Sg.sym, Le.sym] using hrowx) (fun tx4 => ?_)⟩
            k_steps
            refine ⟨wpAny_If ?_⟩
            k_steps
            refine ⟨item_ints hra (Int.natCast_nonneg p) (by omega) (x := (259 : Int)) (by simpa [Sg.sym, Le.sym] using hrowx) (fun tx5 => ?_)⟩
            k_steps
            rename Fr _ _ _ _ => Fa1
            rename News _ _ _ _ => Na1
            have sa1 := K9.seq Fa1 Na1 (by walk_at "w_sub")
            refine ⟨use_s (does_addL w _ _ [49, 49] y0.flat) C (by omega) Fa1 Na1 ⟨rfl, ⟨_, News.isList Na1 (by walk_at "mem_now"), .cons 49 _ (.cons 49 _ .nil)⟩, hb0.seqStay sa1, by (try simp only [List.length_append, List.length_cons, List.length_nil]); omega, by (try simp only [List.length_append, List.length_cons, List.length_nil]); omega⟩ ?_⟩
            rintro _ hc1 tkc1 Wc1 Fc1 Nc1 Kc1 stc1 ⟨D1, rfl, hD1⟩
            have sb1 := sa1.trans (SeqStay.of stc1)
            replace hra := hra.seqStay sb1
            replace hb1 := hb1.seqStay sb1
            replace hb2 := hb2.seqStay sb1
            replace hparts := Mine.IsList.seqStay hparts sb1
            have hpW1 : LstWas s.heap s.heap.objs.size Wc1 pa ([b0, b1, b2].map Value.ref) := ⟨hc1, Kc1, hparts⟩
            k_steps
            rename Fr _ _ _ _ => Fa2
            rename News _ _ _ _ => Na2
            have sa2 := Kc1.seq Fa2 Na2 (by walk_at "w_sub")
            refine ⟨use_s (does_addL w _ _ y2.flat y1.flat) C (by omega) Fa2 Na2 ⟨rfl, hb2.seqStay sa2, hb1.seqStay sa2, by (try simp only [List.length_append, List.length_cons, List.length_nil]); omega, by (try simp only [List.length_append, List.length_cons, List.length_nil]); omega⟩ ?_⟩
            rintro _ hc2 tkc2 Wc2 Fc2 Nc2 Kc2 stc2 ⟨D2, rfl, hD2⟩
            have sb2 := sa2.trans (SeqStay.of stc2)
            replace hra := hra.seqStay sb2
            replace hD1 := hD1.seqStay sb2
            replace hparts := Mine.IsList.seqStay hparts sb2
            have hpW2 : LstWas s.heap s.heap.objs.size Wc2 pa ([b0, b1, b2].map Value.ref) := ⟨hc2, Kc2, hparts⟩
            k_steps
            rename Fr _ _ _ _ => Fa3
            rename News _ _ _ _ => Na3
            have sa3 := Kc2.seq Fa3 Na3 (by walk_at "w_sub")
            refine ⟨use_s (does_addL w _ _ ([49, 49] ++ y0.flat) (y2.flat ++ y1.flat)) C (by omega) Fa3 Na3 ⟨rfl, hD1.seqStay sa3, hD2.seqStay sa3, by (try simp only [List.length_append, List.length_cons, List.length_nil]); omega, by (try simp only [List.length_append, List.length_cons, List.length_nil]); omega⟩ ?_⟩
            rintro _ hc3 tkc3 Wc3 Fc3 Nc3 Kc3 stc3 ⟨D3, rfl, hD3⟩
            have sb3 := sa3.trans (SeqStay.of stc3)
            replace hra := hra.seqStay sb3
            replace hparts := Mine.IsList.seqStay hparts sb3
            have hpW3 : LstWas s.heap s.heap.objs.size Wc3 pa ([b0, b1, b2].map Value.ref) := ⟨hc3, Kc3, hparts⟩
            k_steps
            rename Fr _ _ _ _ => Fz
            rename News _ _ _ _ => Nz
            dsimp only at Fz Nz ⊢
            have sz := Kc3.seq Fz Nz (by walk_at "w_sub")
            refine ⟨_, _, _, _, rfl, rfl, Fz, ?_, rfl, ?_, hra.seqStay sz⟩
            · intro q hq
              simp only [List.mem_cons, List.mem_nil_iff, or_false] at hq
              rcases hq with rfl | rfl | rfl | rfl | rfl | rfl | rfl <;> rfl
            · have hz := hD3.seqStay sz
              simpa [contract, Tr.toks, Tr.toks_flat, Sg.sym] using hz
        · obtain ⟨mk, h9, tk9, m9, rfl, rfl, Fm, hnm, hmade, hmk, hra9⟩ := hx
          have Fm2 := fr_puts _ Fm (allc (x := "made") hmade hnm)
          simp only [puts] at Fm2
          have Nm : News s.heap s.heap.objs.size h9 (allBut s.heap [s.heap.objs.size] h9) := news_allBut (by simp)
          have Km : Kept s.heap s.heap.objs.size h9 (allBut s.heap [s.heap.objs.size] h9) := ⟨⟨_, Fm2⟩, rfl⟩
          generalize allBut s.heap [s.heap.objs.size] h9 = Wm at Nm Km
          clear Fm F9 N9 K9 hparts e11 e10 hra
          have hAl : (p : Int) - (x.ar : Int) = (A.length : Int) := by omega
          have hul := u.toks_len
          have huz := (hSt _ _ hSu).size
          have hcl := congrArg List.length hut
          simp only [List.length_append] at hcl
          have hrl0 := congrArg List.length hdec
          simp only [List.length_append, List.length_cons] at hrl0
          have hpl9 : (preT A x args x.ar).length = A.length + x.ar + 1 + (toksL args).length := by
            simp only [preT, List.length_map, List.length_append, List.length_cons, List.length_replicate]
            rw [List.take_of_length_le (by omega)]
            omega
          k_steps
          rename Fr _ _ _ _ => Ft1
          rename News _ _ _ _ => Nt1
          have st1 := Km.seq Ft1 Nt1 (by walk_at "w_sub")
          refine ⟨cut_ints Ft1 Nt1 (hra9.seqStay st1) .none (.int _ _) (fun vs h => cutI_upto _ (by omega) h) (by rw [List.length_map]; omega) ?_⟩
          rintro D1 zs1 h10 F10 N10 hz1 _
          have hz1' : IntsAre zs1 (A.map Sg.sym) := by
            rw [hAl, Int.toNat_natCast, hdec, ← List.map_take, List.take_left] at hz1
            exact hz1
          k_steps
          rename Fr _ _ _ _ => Ft2
          rename News _ _ _ _ => Nt2
          have st2 := Km.seq Ft2 Nt2 (by walk_at "w_sub")
          refine ⟨use_s (does_addL w _ _ (A.map Sg.sym) ((contract x args).toks.map Sg.sym)) C (by omega) Ft2 Nt2 ⟨rfl, ⟨_, News.isList Nt2 (by walk_at "mem_now"), hz1'⟩, hmk.seqStay st2, by rw [List.length_map]; omega, by rw [List.length_map]; omega⟩ ?_⟩
          rintro _ h11 tk11 W11 F11 N11 K11 st11 ⟨D2, rfl, hD2⟩
          have hra11 := (hra9.seqStay st2).keeps st11
          k_steps
          rename Fr _ _ _ _ => Ft3
          rename News _ _ _ _ => Nt3
          have st3 := K11.seq Ft3 Nt3 (by walk_at "w_sub")
          refine ⟨cut_ints Ft3 Nt3 (hra11.seqStay st3) (.int _ _) .none (fun vs h => cutI_from _ (Int.natCast_nonneg _) h) (by rw [List.length_map]; omega) ?_⟩
          rintro D3 zs3 h12 F12 N12 hz3 _
          have hz3' : IntsAre zs3 (Bk.map Sg.sym) := by
            have e : t.toks = (A ++ (List.replicate x.ar none ++ (some x :: toksL args))) ++ Bk := by rw [hdec]; simp
            have e2 : (preT A x args x.ar).length = (A ++ (List.replicate x.ar none ++ (some x :: toksL args))).length := by
              rw [hpl9]; simp only [List.length_append, List.length_cons, List.length_replicate]; omega
            rw [Int.toNat_natCast, e2, e, ← List.map_drop, List.drop_left] at hz3
            exact hz3
          k_steps
          rename Fr _ _ _ _ => Ft4
          rename News _ _ _ _ => Nt4
          have st4 := K11.seq Ft4 Nt4 (by walk_at "w_sub")
          refine ⟨use_s (does_addL w _ _ (A.map Sg.sym ++ (contract x args).toks.map Sg.sym) (Bk.map Sg.sym)) C (by omega) Ft4 Nt4 ⟨rfl, hD2.seqStay st4, ⟨_, News.isList Nt4 (by walk_at "mem_now"), hz3'⟩, by rw [List.length_append, List.length_map, List.length_map]; omega, by rw [List.length_map]; omega⟩ ?_⟩
          rintro _ h13 tk13 W13 F13 N13 K13 st13 ⟨D4, rfl, hD4⟩
          have hD4' : IntsAt h13 D4 (u.toks.map Sg.sym) := by
            rw [hut]
            simpa using hD4
          k_steps
          rename Fr _ _ _ _ => Ft5
          rename News _ _ _ _ => Nt5
          have st5' := K13.seq Ft5 Nt5 (by walk_at "w_sub")
          refine ⟨use_s (does_heads w D4 u.toks (by omega)) C (by omega) Ft5 Nt5 ⟨rfl, hD4'.seqStay st5'⟩ ?_⟩
          rintro _ h14 tk14 W14 F14 N14 K14 st14 ⟨hb, rfl, hhb⟩
          have hD4s := (hD4'.seqStay st5').keeps st14
          k_steps
          rename Fr _ _ _ _ => Ft6
          rename News _ _ _ _ => Nt6
          dsimp only at Ft6 Nt6 ⊢
          have st6 := K14.seq Ft6 Nt6 (by walk_at "w_sub")
          exact Turn.intro Ft6 Nt6 (fun p hp => absurd hp List.not_mem_nil) ⟨u.size, huz, u, D4, hb, k + 1, _, _, _, rfl, rfl, rfl, rfl, rfl, rfl, by push_cast; rfl, hD4s.seqStay st6, hhb.seqStay st6, hM.snoc hSu⟩
end Mine
/-! part M3 -/
namespace Mine
open PySem PySem.W PyProof.Rows PySem.Calls
noncomputable def unseenL : List Int := [173, 847, 6150, 6155, 6156, 6157, 8203, 8204, 8205, 8288, 65279, 65024, 65025, 65026, 65027, 65028, 65029, 65030, 65031, 65032, 65033, 65034, 65035, 65036, 65037, 65038, 65039]
noncomputable def startsL : List Int := [119808, 119860, 119912, 120016, 120172, 120224, 120276, 120328, 120380, 120432]
/-- the signs that a text may hold, with what they are read as -/
noncomputable def codesL : List (Nat × List Sg) :=
  [(64, [none]), (13189, [some .k, some .b]), (13261, [some .k, some .k])] ++ ([Le.i, .k, .b, .c].map fun z => (z.cp, [some z])) ++ ([Le.i, .k, .b, .c].map fun z => (z.cp - 32, [some z])) ++
  (startsL.map fun k => [Le.i, .k, .b, .c].map fun z => ((k + z.cp - 97).toNat, [some z])).flatten
theorem codes_read : (codesL.all fun p => !b1S p.1 && decide ((fold p.1).cps.toList = p.2.map Sg.cp)) = true := by decide +kernel
theorem unseen_b1 : (unseenL.all fun k => b1S (k.toNat : Nat)) = true := by decide +kernel
theorem reads_of {c : Nat} {l : List Sg} (h : (c, l) ∈ codesL) : Reads c l := by
  have := List.all_eq_true.mp codes_read _ h
  simp only [Bool.and_eq_true, Bool.not_eq_true', decide_eq_true_eq] at this
  exact .inr this
theorem le_mem (z : Le) : z ∈ [Le.i, .k, .b, .c] := by cases z <;> simp
theorem reads_plain (g : Sg) : Reads g.cp [g] := by
  cases g with
  | none => exact reads_of (by simp [codesL, Sg.cp])
  | some z => cases z <;> exact reads_of (by simp [codesL, Sg.cp, Le.cp])
theorem reads_up (z : Le) : Reads (z.cp - 32) [some z] := by cases z <;> exact reads_of (by simp [codesL, Le.cp])
theorem reads_alpha (z : Le) {k : Int} (h : k ∈ startsL) : Reads (k + z.cp - 97).toNat [some z] := by
  refine reads_of ?_
  unfold codesL
  refine List.mem_append_right _ (List.mem_flatten.mpr ⟨_, List.mem_map.mpr ⟨k, h, rfl⟩, List.mem_map.mpr ⟨z, le_mem z, rfl⟩⟩)
theorem reads_kb : Reads 13189 [some .k, some .b] := reads_of (by simp [codesL])
theorem reads_kk : Reads 13261 [some .k, some .k] := reads_of (by simp [codesL])
theorem reads_none {k : Int} (h : k ∈ unseenL) : Reads k.toNat [] := .inl ⟨List.all_eq_true.mp unseen_b1 k h, rfl⟩
theorem slice_min (x : Str) (a b : Nat) : Txt.slice x (some (a : Int)) (some (b : Int)) = Txt.slice x (some (a : Int)) (some ((min b x.length : Nat) : Int)) := by
  have e : Builtin.Str.strSliceIndices (some (a : Int)) (some (b : Int)) 1 x.length = Builtin.Str.strSliceIndices (some (a : Int)) (some ((min b x.length : Nat) : Int)) 1 x.length := by
    simp only [Builtin.Str.strSliceIndices]
    have h1 : ¬ ((b : Int) < 0) := by omega
    have h2 : ¬ (((min b x.length : Nat) : Int) < 0) := by omega
    rw [if_neg h1, if_neg h2]
    have e2 : min (b : Int) (x.length : Int) = min ((min b x.length : Nat) : Int) (x.length : Int) := by omega
    simp only [show ((1 : Int) > 0) = True from by simp, if_true, e2]
  unfold Txt.slice
  rw [e]
theorem slice_two {px : Str} {pl : Nat} (h : pl ≤ px.length) : (Txt.slice px (some (pl : Int)) (some ((pl : Int) + 2))).cps.toList = (px.cps.toList.drop pl).take 2 := by
  have e0 : ((pl : Int) + 2) = ((pl + 2 : Nat) : Int) := by push_cast; rfl
  rw [e0, slice_min]
  have := slice_closesL (x := px) (i := (pl : Int)) (j := ((min (pl + 2) px.length : Nat) : Int)) (by omega) (by omega) (by omega)
  rw [beq_iff_eq.mp this]
  have hl : px.length = px.cps.toList.length := by simp [Str.length]
  have e1 : (((min (pl + 2) px.length : Nat) : Int) - (pl : Int)).toNat = min 2 (px.length - pl) := by omega
  rw [e1, Int.toNat_natCast]
  show ((px.cps.toList.drop pl).take (min 2 (px.length - pl))) = _
  rw [hl, ← List.length_drop, Nat.min_comm, ← List.take_take]
  exact List.take_of_length_le (by rw [List.length_take]; omega)
theorem cp_inj {g g' : Sg} (h : g.cp = g'.cp) : g = g' := by
  cases g with
  | none => cases g' with
    | none => rfl
    | some y => cases y <;> cases h
  | some x => cases g' with
    | none => cases x <;> cases h
    | some y => rw [Le.cp_inj h]
/-- the two letters kb, kk stand at pl -/
noncomputable def twoAt (gs : List Sg) (pl : Nat) (y : Le) : Prop := gs[pl]? = some (some Le.k) ∧ gs[pl + 1]? = some (some y)
theorem two_of {px : Str} {gs : List Sg} (hp : px.cps.toList = gs.map Sg.cp) {pl : Nat} (h : pl ≤ px.length) {y : Le} (e : Txt.slice px (some (pl : Int)) (some ((pl : Int) + 2)) = ⟨#[107, y.cp]⟩) : twoAt gs pl y := by
  have e2 := slice_two h
  rw [e, hp] at e2
  have a0 := congrArg (·[0]?) e2
  have a1 := congrArg (·[1]?) e2
  simp only [List.getElem?_take, List.getElem?_drop, List.getElem?_map] at a0 a1
  constructor
  · cases q : gs[pl]? with
    | none => simp [q] at a0
    | some g =>
      simp [q] at a0
      rw [cp_inj (g := g) (g' := some .k) a0.symm]
  · cases q : gs[pl + 1]? with
    | none => simp [q] at a1
    | some g =>
      simp [q] at a1
      rw [cp_inj (g := g) (g' := some y) a1.symm]
theorem of_two {px : Str} {gs : List Sg} (hp : px.cps.toList = gs.map Sg.cp) {pl : Nat} (h : pl ≤ px.length) {y : Le} (e : twoAt gs pl y) : Txt.slice px (some (pl : Int)) (some ((pl : Int) + 2)) = ⟨#[107, y.cp]⟩ := by
  obtain ⟨h0, h1⟩ := e
  refine Str.eq_of ?_
  rw [slice_two h, hp]
  obtain ⟨l0, e0⟩ := List.getElem?_eq_some_iff.mp h0
  obtain ⟨l1, e1⟩ := List.getElem?_eq_some_iff.mp h1
  rw [← List.map_drop, List.drop_eq_getElem_cons l0, List.drop_eq_getElem_cons l1, e0, e1]
  rfl
theorem any_two {px : Str} {gs : List Sg} (hp : px.cps.toList = gs.map Sg.cp) {pl : Nat} (h : pl ≤ px.length) {b : Bool} (hb : b = true ↔ twoAt gs pl .b ∨ twoAt gs pl .k) :
    ([Str.ofString "kb", Str.ofString "kk"].any (· == Txt.slice px (some (pl : Int)) (some ((pl : Int) + 2)))) = b := by
  have k1 : Str.ofString "kb" = ⟨#[107, Le.b.cp]⟩ := by decide
  have k2 : Str.ofString "kk" = ⟨#[107, Le.k.cp]⟩ := by decide
  rw [Bool.eq_iff_iff, hb]
  simp only [List.any_cons, List.any_nil, Bool.or_false, Bool.or_eq_true, beq_iff_eq, k1, k2]
  constructor
  · rintro (e | e)
    · exact .inl (two_of hp h e.symm)
    · exact .inr (two_of hp h e.symm)
  · rintro (e | e)
    · exact .inl (of_two hp h e).symm
    · exact .inr (of_two hp h e).symm
theorem item_sg {px : Str} {gs : List Sg} (hp : px.cps.toList = gs.map Sg.cp) {i : Nat} {g : Sg} (h : gs[i]? = some g) : Txt.item px (i : Int) = sg g.cp := by
  have e : px.cps[i]? = some g.cp := by
    have : px.cps.toList[i]? = some g.cp := by rw [hp, List.getElem?_map, h]; rfl
    simpa using this
  unfold Txt.item sg
  rw [show Txt.charAt px (i : Int) = some g.cp from ?_]
  · rfl
  · unfold Txt.charAt
    have hlt : i < px.length := by
      obtain ⟨q, _⟩ := Array.getElem?_eq_some_iff.mp e
      exact q
    rw [seqIndex_of (Int.natCast_nonneg i) (by omega)]
    simpa using e
end Mine
/-! part W21 -/
namespace Mine
open PySem PySem.W PyProof.Rows PySem.Calls
theorem fill15 : KK = KK ∧ PySem.Challenge.rw_wf0081_01 = PySem.Challenge.rw_wf0081_01 := by
  k_fill
  exact ⟨rfl, rfl⟩
set_option maxHeartbeats 8000000
local macro_rules | `(tactic| walk_at "exec While Compare cons nil") => `(tactic| (refine stop_ ?_))
local macro_rules | `(tactic| walk_at "compareOp In str ref") => `(tactic| (refine stop_ ?_))
local macro_rules | `(tactic| walk_at "WhlIf") => `(tactic| (refine stop_ ?_))
local macro_rules | `(tactic| walk_at "exec If") => `(tactic| (refine stop_ ?_))
local macro_rules | `(tactic| walk_at "subscriptTail Name BinOp ref int") => `(tactic| (refine stop_ ?_))
local macro_rules | `(tactic| walk_at "binaryOp Add ref ref") => `(tactic| (refine stop_ ?_))
theorem ints_of_carried {ys : List Value} : ∀ {ns : List Int}, CarriedAll ys (ns.map PyData.int) → IntsAre ys ns
  | [], h => by cases h; exact .nil
  | n :: ns, h => by
    cases h with
    | cons a b =>
      cases a with
      | int _ u => exact .cons n u (ints_of_carried b)
/-- a state of the frame, told by names -/
noncomputable def StateIs (s : Shared) (h₀ : Heap) (L : Addr) (names : List (Str × Value)) (h3 : Heap) (s₂ : Shared) : Prop :=
  ∃ (h : Heap) (tk : Nat) (m : Str → Option Value), s₂ = { s with heap := h, toks := tk } ∧ Fr h₀ L h m ∧ (∀ p ∈ names, m p.1 = some p.2) ∧ SeqStay h3 h
theorem StateIs.mk' {s : Shared} {h₀ h h3 : Heap} {L : Addr} {names : List (Str × Value)} {tk : Nat} {m : Str → Option Value} (F : Fr h₀ L h m) (hn : ∀ p ∈ names, m p.1 = some p.2) (sq : SeqStay h3 h) : StateIs s h₀ L names h3 { s with heap := h, toks := tk } := ⟨h, tk, m, rfl, F, hn, sq⟩
theorem le_cp_bd (z : Le) : 98 ≤ z.cp ∧ z.cp ≤ 107 := by cases z <;> decide
theorem starts_bd : ∀ {k : Int}, k ∈ startsL → 119808 ≤ k ∧ k ≤ 120432 := by
  intro k h
  simp only [startsL, List.mem_cons, List.mem_nil_iff, or_false] at h
  omega
theorem unseen_bd : ∀ {k : Int}, k ∈ unseenL → 0 ≤ k ∧ k ≤ 65279 := by
  intro k h
  simp only [unseenL, List.mem_cons, List.mem_nil_iff, or_false] at h
  omega
theorem sg_cps (c : Nat) : (sg c).cps.toList = [c] := rfl
theorem sg_len (c : Nat) : (sg c).length = 1 := rfl
noncomputable def TestIs (s : Shared) (h₀ : Heap) (L : Addr) (names : List (Str × Value)) (h3 : Heap) (cond b : Bool) (s₂ : Shared) : Prop := b = cond ∧ StateIs s h₀ L names h3 s₂
noncomputable def LetIs (s : Shared) (h₀ : Heap) (L : Addr) (gs : List Sg) (pl : Nat) (tx : Str) (names : List (Str × Value)) (h3 : Heap) (fl : Flow) (s₂ : Shared) : Prop :=
  fl = .next ∧ ∃ (pl' : Nat) (tq' tt' : Tok) (c : Nat) (l : List Sg), Reads c l ∧ gs.take pl ++ l = gs.take (pl' + 1) ∧ pl ≤ pl' ∧ pl' < gs.length ∧ StateIs s h₀ L ((Str.ofString "place", .int (pl' : Nat) tq') :: (Str.ofString "text", .str (tx ++ sg c) tt') :: names) h3 s₂
theorem does_written (w : World) (a : Addr) (t : Tok) (ns : List Int) (hz : ns.length = 8) (hn : ∀ x ∈ ns, 0 ≤ x ∧ x < 1000000) (px : Str) (gs : List Sg) (hp : px.cps.toList = gs.map Sg.cp) (hg : gs.length ≤ 20) :
    Does w 156 8 (fun h vs => vs = [.str px t, .ref a] ∧ IntsAt h a ns) (fun _ _ h' r => ∃ tx t ls, r = .str tx t ∧ All2 Reads tx.cps.toList ls ∧ ls.flatten = gs) := by
  refine does_of (binds := fun vs => (["plain", "numbers"] : List Str).zip vs) (look_written _) (by kernel_rfl) ?_ ?_ (by kernel_rfl) (by kernel_rfl) (by kernel_rfl) (by decide +kernel)
  · rintro h _ ⟨rfl, _⟩
    exact ⟨by kernel_rfl, by kernel_rfl⟩
  · rintro ⟨hdl, dp, frs, gd, un⟩ s _ h₁ tk base outs mean mg mb C B X T ⟨rfl, vs, hl, hi⟩ F
    obtain rfl : hdl = none := (C _ _ F).hd
    obtain rfl : frs = some outs := B.stack
    w_on
    have N : News s.heap s.heap.objs.size h₁ [] := News.nil
    k_steps
    rename CarriedAll _ _ => hc
    rename Heap.IsList _ _ _ => hlr
    rename Fr _ _ _ _ => F2
    rename News _ _ _ [_] => N2
    dsimp only at F2 N2 hlr
    refine ⟨cat_lst F2 N2 (News.isList N2 (.head _)) hlr ?_ ?_⟩
    · have := (ints_of_carried hc).length
      rw [this]
      exact Nat.le_trans (show 11 + (rangeInts 65024 1 (65040 - 65024 : Int).toNat).length ≤ 100000 by decide) (Nat.le_refl _)
    intro D5 h5 F5 N5
    rw [show rangeInts 65024 1 (65040 - 65024 : Int).toNat = [65024, 65025, 65026, 65027, 65028, 65029, 65030, 65031, 65032, 65033, 65034, 65035, 65036, 65037, 65038, 65039] by decide] at hc
    have hunA : IntsAt h5 D5 unseenL := lobj_ints (N5 _ (.head _)).1 (IntsAre.append (.cons 173 _ (.cons 847 _ (.cons 6150 _ (.cons 6155 _ (.cons 6156 _ (.cons 6157 _ (.cons 8203 _ (.cons 8204 _ (.cons 8205 _ (.cons 8288 _ (.cons 65279 _ .nil))))))))))) (ints_of_carried hc))
    have K5 : Kept s.heap s.heap.objs.size h5 (allBut s.heap [s.heap.objs.size] h5) := ⟨⟨_, F5⟩, rfl⟩
    replace N5 : News s.heap s.heap.objs.size h5 (allBut s.heap [s.heap.objs.size] h5) := news_allBut (by simp)
    generalize allBut s.heap [s.heap.objs.size] h5 = W5 at K5 N5
    clear N2 hc hlr
    have hA : IntsAt s.heap a ns := ⟨vs, hl, by assumption⟩
    (rename NewPlain _ _ _ _ => z1); clear z1
    (rename IsRange _ _ _ _ _ _ _ _ => z2); clear z2
    (rename (∀ (b : Addr) (o : Obj), _ → _) => z3); clear z3
    (rename (∀ (b : Addr) (o : Obj), _ → _) => z3); clear z3
    (rename (_ = none) => z4); clear z4
    (rename News _ _ _ [_] => z5); clear z5
    (rename News _ _ _ [_] => z5); clear z5
    clear F2
    (rename Fr _ _ _ _ => F5)
    dsimp only
    k_steps
    rename Fr _ _ _ _ => F6
    rename News _ _ _ _ => N6
    dsimp only at F6 N6
    have sq6 := K5.seq F6 N6 (by walk_at "w_sub")
    have hst6 := N6 _ (.head _)
    have hpl : px.length = gs.length := by
      have := congrArg List.length hp
      simpa [Str.length] using this
    refine ⟨while_n (J := fun n h m => ∃ (pl : Nat) (q : Int) (tq tt : Tok) (tx : Str) (ls : List (List Sg)) (sa : Addr), n = gs.length - pl ∧ m "place" = some (.int q tq) ∧ q = pl ∧ pl ≤ gs.length ∧ m "text" = some (.str tx tt) ∧ tx.length ≤ 2 * pl ∧ All2 Reads tx.cps.toList ls ∧ ls.flatten = gs.take pl ∧
        m "unseen" = some (.ref D5) ∧ IntsAt h D5 unseenL ∧ m "starts" = some (.ref sa) ∧ IntsAt h sa startsL ∧ m "plain" = some (.str px t) ∧ m "numbers" = some (.ref a)) gs.length F6
        ⟨0, _, _, _, _, [], _, rfl, rfl, rfl, Nat.zero_le _, rfl, Nat.le_refl _, .nil, rfl, rfl, hunA.seqStay sq6, rfl, ⟨_, ⟨_, hst6.1, rfl, _, rfl⟩, .cons 119808 _ (.cons 119860 _ (.cons 119912 _ (.cons 120016 _ (.cons 120172 _ (.cons 120224 _ (.cons 120276 _ (.cons 120328 _ (.cons 120380 _ (.cons 120432 _ .nil)))))))))⟩, rfl, rfl⟩ ?_⟩
    clear F6 N6 K5 sq6 hst6
    rintro n h m7 m W ⟨pl, q, tq, tt, tx, ls, sa, rfl, e1, rfl, e2, e3, e4, e5, e6, e7, e8, e9, e10, e11, e12⟩ F1 N1 K
    have F2 := fr_puts _ F1 (allc e1 (allc e3 (allc e7 (allc e9 (allc e11 (all1 e12))))))
    simp only [puts] at F2
    clear F1
    have hunB : True := trivial
    have hstB : True := trivial
    rcases Nat.lt_or_ge pl gs.length with hlt | hge
    · have hcmp : (pl : Int) < (px.length : Int) := by omega
      k_steps
      refine ⟨WhlIf.yes (decide_eq_true hcmp) ?_⟩
      have hm8 := Int.fmod_nonneg_of_pos (pl : Int) (show (0 : Int) < 8 by decide)
      have hm8b := Int.fmod_lt_of_pos (pl : Int) (show (0 : Int) < 8 by decide)
      obtain ⟨x, hx⟩ : ∃ x, ns[((pl : Int).fmod 8).toNat]? = some x := ⟨ns[((pl : Int).fmod 8).toNat]'(by omega), List.getElem?_eq_getElem _⟩
      obtain ⟨hx0, hx1⟩ := hn x (List.mem_of_getElem? hx)
      have hsd0 : 0 ≤ x.fdiv 4 + 7 * (pl : Int) := by
        rw [Int.fdiv_eq_ediv_of_nonneg _ (by decide)]
        omega
      have hsd1 : x.fdiv 4 + 7 * (pl : Int) < 2000000 := by
        rw [Int.fdiv_eq_ediv_of_nonneg _ (by decide)]
        omega
      k_steps
      refine ⟨item_ints (hA.keeps (Fr.keep (by assumption))) hm8 (by omega) hx (fun tx1 => ?_)⟩
      k_steps
      rename Fr _ _ _ _ => F3
      rename News _ _ _ _ => N3
      dsimp only at F3 N3
      obtain ⟨g, hg1⟩ : ∃ g, gs[pl]? = some g := ⟨gs[pl], List.getElem?_eq_getElem hlt⟩
      rw [item_sg hp hg1] at F3
      generalize x.fdiv 4 + 7 * (pl : Int) = sd at F3 hsd0 hsd1 ⊢
      have sq3 := K.seq F3 N3 (by walk_at "w_sub")
      obtain ⟨tl, ts, F4⟩ : ∃ tl ts, Fr s.heap s.heap.objs.size _ (puts ([(Str.ofString "letter", .str (sg g.cp) tl), (Str.ofString "seed", .int sd ts), (Str.ofString "place", .int (pl : Nat) tq), (Str.ofString "text", .str tx tt), (Str.ofString "unseen", .ref D5), (Str.ofString "starts", .ref sa), (Str.ofString "plain", .str px t), (Str.ofString "numbers", .ref a)]) m) := ⟨_, _, F3⟩
      rename Heap => h3
      replace hunB : IntsAt h3 D5 unseenL := e8.seqStay sq3
      replace hstB : IntsAt h3 sa startsL := e10.seqStay sq3
      clear F3 K e8 e10 sq3
      have Fo := F4
      simp only [puts] at Fo
      have Ko : Kept s.heap s.heap.objs.size h3 (allBut s.heap [s.heap.objs.size] h3) := ⟨⟨_, Fo⟩, rfl⟩
      replace N3 : News s.heap s.heap.objs.size h3 (allBut s.heap [s.heap.objs.size] h3) := news_allBut (by simp)
      generalize allBut s.heap [s.heap.objs.size] h3 = W3 at N3 Ko
      clear F4
      obtain ⟨bb, hbb⟩ : ∃ bb : Bool, (bb = true ↔ twoAt gs pl .b ∨ twoAt gs pl .k) := by
        classical exact ⟨decide (twoAt gs pl .b ∨ twoAt gs pl .k), by simp⟩
      refine ⟨wpAny_mono (Q := LetIs s s.heap s.heap.objs.size gs pl tx [(Str.ofString "seed", .int sd ts), (Str.ofString "unseen", .ref D5), (Str.ofString "starts", .ref sa), (Str.ofString "plain", .str px t), (Str.ofString "numbers", .ref a)] h3) ?_ (fun fl s' hx => ?_) (fun _ _ e => e)⟩
      · refine wpAny_If (wpAny_mono (Q := TestIs s s.heap s.heap.objs.size [(Str.ofString "letter", .str (sg g.cp) tl), (Str.ofString "seed", .int sd ts), (Str.ofString "place", .int (pl : Nat) tq), (Str.ofString "text", .str tx tt), (Str.ofString "unseen", .ref D5), (Str.ofString "starts", .ref sa), (Str.ofString "plain", .str px t), (Str.ofString "numbers", .ref a)] h3 (bb && decide (sd.fmod 2 = 0))) ?_ (fun b s₂ hb => ?_) (fun _ _ e => e))
        · by_cases hev : sd.fmod 2 = 0
          all_goals
            k_steps
            (rename News _ _ _ _ => Nt)
            dsimp only at Nt ⊢
            refine ⟨in_tuple_strs (News.isTup Nt (.head _)) (.cons _ _ (.cons _ _ .nil)) ?_⟩
            rw [any_two hp (by omega) hbb]
            cases bb
            all_goals
              k_steps
              all_goals first
                | (exfalso; omega)
                | ((rename Fr _ _ _ _ => Fz); (rename News _ _ _ _ => Nz); (try dsimp only at Fz Nz ⊢); exact ⟨by simp [hev], StateIs.mk' Fz (by
                          intro q hq
                          simp only [List.mem_cons, List.mem_nil_iff, or_false] at hq
                          rcases hq with rfl | rfl | rfl | rfl | rfl | rfl | rfl | rfl <;> rfl) (Ko.seq Fz Nz (by walk_at "w_sub"))⟩)
        · obtain ⟨rfl, h5, tk5, m5, rfl, F5, hn5, sq5⟩ := hb
          have Fo5 := fr_puts _ F5 hn5
          simp only [puts] at Fo5
          have No5 : News s.heap s.heap.objs.size h5 (allBut s.heap [s.heap.objs.size] h5) := news_allBut (by simp)
          have Ko5 : Kept s.heap s.heap.objs.size h5 (allBut s.heap [s.heap.objs.size] h5) := ⟨⟨_, F5⟩, rfl⟩
          generalize allBut s.heap [s.heap.objs.size] h5 = Wo5 at No5 Ko5
          clear F5 hn5
          by_cases hcond : (bb && decide (sd.fmod 2 = 0)) = true
          · rw [if_pos hcond]
            rw [Bool.and_eq_true] at hcond
            rcases hbb.mp hcond.1 with h2 | h2
            · have hl2 : pl + 1 < gs.length := (List.getElem?_eq_some_iff.mp h2.2).1
              have hl3 : (pl : Int) + 1 < (px.length : Int) := by omega
              have hit : Txt.item px ((pl : Int) + 1) = sg (Sg.cp (some .b)) := item_sg (i := pl + 1) hp h2.2
              have htake : gs.take pl ++ [some .k, some .b] = gs.take (pl + 1 + 1) := by rw [take_snoc h2.2, take_snoc h2.1]; simp
              k_steps
              all_goals first
                | (rename (_ == _) = false => q; rw [hit] at q; exact absurd q (by decide))
                | ((rename Fr _ _ _ _ => Fz); (rename News _ _ _ _ => Nz); (try dsimp only at Fz Nz ⊢); exact ⟨rfl, pl + 1, _, _, 13189, [some .k, some .b], reads_kb, htake, by omega, by omega, StateIs.mk' Fz (by
                          intro q hq
                          simp only [List.mem_cons, List.mem_nil_iff, or_false] at hq
                          rcases hq with rfl | rfl | rfl | rfl | rfl | rfl | rfl <;> rfl) (sq5.trans (Ko5.seq Fz Nz (by walk_at "w_sub")))⟩)
                | (exfalso; omega)
            · have hl2 : pl + 1 < gs.length := (List.getElem?_eq_some_iff.mp h2.2).1
              have hl3 : (pl : Int) + 1 < (px.length : Int) := by omega
              have hit : Txt.item px ((pl : Int) + 1) = sg (Sg.cp (some .k)) := item_sg (i := pl + 1) hp h2.2
              have htake : gs.take pl ++ [some .k, some .k] = gs.take (pl + 1 + 1) := by rw [take_snoc h2.2, take_snoc h2.1]; simp
              k_steps
              all_goals first
                | (rename (_ == _) = true => q; rw [hit] at q; exact absurd q (by decide))
                | ((rename Fr _ _ _ _ => Fz); (rename News _ _ _ _ => Nz); (try dsimp only at Fz Nz ⊢); exact ⟨rfl, pl + 1, _, _, 13261, [some .k, some .k], reads_kk, htake, by omega, by omega, StateIs.mk' Fz (by
                          intro q hq
                          simp only [List.mem_cons, List.mem_nil_iff, or_false] at hq
                          rcases hq with rfl | rfl | rfl | rfl | rfl | rfl | rfl <;> rfl) (sq5.trans (Ko5.seq Fz Nz (by walk_at "w_sub")))⟩)
                | (exfalso; omega)
          · rw [if_neg hcond]
            have hr0 := Int.fmod_nonneg_of_pos sd (show (0 : Int) < 12 by decide)
            have hr1 := Int.fmod_lt_of_pos sd (show (0 : Int) < 12 by decide)
            have htake : gs.take pl ++ [g] = gs.take (pl + 1) := (take_snoc hg1).symm
            have hstC := hstB.seqStay sq5
            have hsl : (sg g.cp).length = 1 := sg_len _
            k_steps
            refine ⟨wpAny_If ?_⟩
            cases g with
            | none =>
              k_steps
              all_goals first
                | (rename (_ == _) = false => q; exact absurd q (by decide))
                | ((rename Fr _ _ _ _ => Fz); (rename News _ _ _ _ => Nz); (try dsimp only at Fz Nz ⊢); exact ⟨rfl, pl, _, _, _, [none], reads_plain none, htake, Nat.le_refl _, hlt, StateIs.mk' Fz (by
                          intro q hq
                          simp only [List.mem_cons, List.mem_nil_iff, or_false] at hq
                          rcases hq with rfl | rfl | rfl | rfl | rfl | rfl | rfl <;> rfl) (sq5.trans (Ko5.seq Fz Nz (by walk_at "w_sub")))⟩)
            | some z =>
              have hzb := le_cp_bd z
              have hzb2 : 98 ≤ (sg (Sg.cp (some z))).cps.getD 0 0 ∧ (sg (Sg.cp (some z))).cps.getD 0 0 ≤ 107 := hzb
              rcases (show sd.fmod 12 = 0 ∨ sd.fmod 12 = 1 ∨ 2 ≤ sd.fmod 12 by omega) with hr | hr | hr
              · k_steps
                all_goals first
                  | (exfalso; omega)
                  | ((rename Fr _ _ _ _ => Fz); (rename News _ _ _ _ => Nz); (try dsimp only at Fz Nz ⊢); exact ⟨rfl, pl, _, _, _, [some z], reads_plain (some z), htake, Nat.le_refl _, hlt, StateIs.mk' Fz (by
                          intro q hq
                          simp only [List.mem_cons, List.mem_nil_iff, or_false] at hq
                          rcases hq with rfl | rfl | rfl | rfl | rfl | rfl | rfl <;> rfl) (sq5.trans (Ko5.seq Fz Nz (by walk_at "w_sub")))⟩)
                  | (rename (_ == _) = true => q; exact absurd (cp_inj (g := some z) (g' := none) (sg_inj (beq_iff_eq.mp q))) (by simp))
              · k_steps
                all_goals first
                  | (exfalso; omega)
                  | (rename (_ == _) = true => q; exact absurd (cp_inj (g := some z) (g' := none) (sg_inj (beq_iff_eq.mp q))) (by simp))
                  | skip
                refine ⟨wpAny_If ?_⟩
                k_steps
                all_goals first
                  | (exfalso; omega)
                  | ((rename Fr _ _ _ _ => Fz); (rename News _ _ _ _ => Nz); (try dsimp only at Fz Nz ⊢); exact ⟨rfl, pl, _, _, ((z.cp : Int) - 32).toNat, [some z], by rw [show ((z.cp : Int) - 32).toNat = z.cp - 32 by omega]; exact reads_up z, htake, Nat.le_refl _, hlt, StateIs.mk' Fz (by
                          intro q hq
                          simp only [List.mem_cons, List.mem_nil_iff, or_false] at hq
                          rcases hq with rfl | rfl | rfl | rfl | rfl | rfl | rfl <;> rfl) (sq5.trans (Ko5.seq Fz Nz (by walk_at "w_sub")))⟩)
              · k_steps
                all_goals first
                  | (exfalso; omega)
                  | (rename (_ == _) = true => q; exact absurd (cp_inj (g := some z) (g' := none) (sg_inj (beq_iff_eq.mp q))) (by simp))
                  | skip
                refine ⟨wpAny_If ?_⟩
                obtain ⟨kk, hkk⟩ : ∃ kk, startsL[(sd.fmod 12 - 2).toNat]? = some kk := ⟨startsL[(sd.fmod 12 - 2).toNat]'(by show _ < 10; omega), List.getElem?_eq_getElem _⟩
                have hkb := starts_bd (List.mem_of_getElem? hkk)
                k_steps
                all_goals first
                  | (exfalso; omega)
                  | skip
                (rename Fr _ _ _ _ => Fy)
                (rename News _ _ _ _ => Ny)
                have sqy := Ko5.seq Fy Ny (by walk_at "w_sub")
                refine ⟨item_ints (hstC.seqStay sqy) (by omega) (by omega) hkk (fun t9 => ?_)⟩
                k_steps
                ((rename Fr _ _ _ _ => Fz); (rename News _ _ _ _ => Nz); (try dsimp only at Fz Nz ⊢); exact ⟨rfl, pl, _, _, (kk + (z.cp : Int) - 97).toNat, [some z], reads_alpha z (List.mem_of_getElem? hkk), htake, Nat.le_refl _, hlt, StateIs.mk' Fz (by
                          intro q hq
                          simp only [List.mem_cons, List.mem_nil_iff, or_false] at hq
                          rcases hq with rfl | rfl | rfl | rfl | rfl | rfl | rfl <;> rfl) (sq5.trans (Ko5.seq Fz Nz (by walk_at "w_sub")))⟩)
      · obtain ⟨rfl, pl', tq', tt', c, l, hR, htk, hle', hlt', h6, tk6, m6, rfl, F6, hn6, sq6⟩ := hx
        have Fo6 := fr_puts _ F6 hn6
        simp only [puts] at Fo6
        have No6 : News s.heap s.heap.objs.size h6 (allBut s.heap [s.heap.objs.size] h6) := news_allBut (by simp)
        have Ko6 : Kept s.heap s.heap.objs.size h6 (allBut s.heap [s.heap.objs.size] h6) := ⟨⟨_, F6⟩, rfl⟩
        generalize allBut s.heap [s.heap.objs.size] h6 = Wo6 at No6 Ko6
        clear F6 hn6
        have hq0 : 0 ≤ (sd.fdiv 12).fmod 28 := Int.fmod_nonneg_of_pos _ (by decide)
        have hq1 : (sd.fdiv 12).fmod 28 < 28 := Int.fmod_lt_of_pos _ (by decide)
        have hunC := hunB.seqStay sq6
        have hsl : (sg c).length = 1 := sg_len _
        have htl : (tx ++ sg c).length = tx.length + 1 := by rw [Str.length_append, hsl]
        k_steps
        refine ⟨wpAny_If ?_⟩
        rcases Int.lt_or_le 0 ((sd.fdiv 12).fmod 28) with hq | hq
        · obtain ⟨kk, hkk⟩ : ∃ kk, unseenL[((sd.fdiv 12).fmod 28 - 1).toNat]? = some kk := ⟨unseenL[((sd.fdiv 12).fmod 28 - 1).toNat]'(by show _ < 27; omega), List.getElem?_eq_getElem _⟩
          have hkb := unseen_bd (List.mem_of_getElem? hkk)
          k_steps
          all_goals first
            | (exfalso; omega)
            | skip
          (rename Fr _ _ _ _ => Fy)
          (rename News _ _ _ _ => Ny)
          have sqy := Ko6.seq Fy Ny (by walk_at "w_sub")
          refine ⟨item_ints (hunC.seqStay sqy) (by omega) (by omega) hkk (fun t9 => ?_)⟩
          k_steps
          (rename Fr _ _ _ _ => Fz)
          (rename News _ _ _ _ => Nz)
          dsimp only at Fz Nz ⊢
          have sqz := sq6.trans (Ko6.seq Fz Nz (by walk_at "w_sub"))
          refine Turn.intro Fz Nz (fun p hp => absurd hp List.not_mem_nil) ⟨gs.length - (pl' + 1), by omega, pl' + 1, _, _, _, _, (ls ++ [l] ++ [[]]), sa, rfl, rfl, by push_cast; rfl, by omega, rfl, ?_, ?_, ?_, rfl, hunB.seqStay sqz, rfl, hstB.seqStay sqz, rfl, rfl⟩
          · show ((tx ++ sg c) ++ sg kk.toNat).length ≤ _
            rw [Str.length_append, htl, sg_len]; omega
          · show All2 Reads ((tx ++ sg c) ++ sg kk.toNat).cps.toList _
            rw [Str.cps_append, Str.cps_append, sg_cps, sg_cps]
            exact (e5.append' (.cons hR .nil)).append' (.cons (reads_none (List.mem_of_getElem? hkk)) .nil)
          · rw [List.flatten_append, List.flatten_append, e6]
            simpa using htk
        · k_steps
          all_goals first
            | (exfalso; omega)
            | skip
          (rename Fr _ _ _ _ => Fz)
          (rename News _ _ _ _ => Nz)
          dsimp only at Fz Nz ⊢
          have sqz := sq6.trans (Ko6.seq Fz Nz (by walk_at "w_sub"))
          refine Turn.intro Fz Nz (fun p hp => absurd hp List.not_mem_nil) ⟨gs.length - (pl' + 1), by omega, pl' + 1, _, _, _, _, (ls ++ [l]), sa, rfl, rfl, by push_cast; rfl, by omega, rfl, ?_, ?_, ?_, rfl, hunB.seqStay sqz, rfl, hstB.seqStay sqz, rfl, rfl⟩
          · show (tx ++ sg c).length ≤ _
            rw [htl]; omega
          · show All2 Reads (tx ++ sg c).cps.toList _
            rw [Str.cps_append, sg_cps]
            exact e5.append' (.cons hR .nil)
          · rw [List.flatten_append, e6]
            simpa using htk
    · have hcmp : ¬ (pl : Int) < (px.length : Int) := by omega
      k_steps
      refine ⟨WhlIf.no (decide_eq_false hcmp) ?_⟩
      k_steps
      dsimp only
      exact Fin1.intro F2 ⟨tx, _, ls, rfl, e5, by rw [e6, List.take_of_length_le hge]⟩
end Mine
/-! part W23 -/
namespace Mine
open PySem PySem.W PyProof.Rows PySem.Calls
theorem fill16 : KK = KK ∧ PySem.Challenge.rw_wf0081_01 = PySem.Challenge.rw_wf0081_01 := by
  k_fill
  exact ⟨rfl, rfl⟩
set_option maxHeartbeats 8000000
local macro_rules | `(tactic| walk_at "call ref") => `(tactic| (refine stop_ ?_))
local macro_rules | `(tactic| walk_at "compareOp NotEq ref ref") => `(tactic| (refine stop_ ?_))
local macro_rules | `(tactic| walk_at "binaryOp Add ref ref") => `(tactic| (refine stop_ ?_))
theorem picks_first : Picks Lm [0] := by
  intro t u k x hx hu
  have : x = 0 := by
    have e : ((k : Int).fmod ([0] : List Int).length).toNat = 0 := by
      have := Int.fmod_lt_of_pos (k : Int) (show (0 : Int) < 1 by decide)
      have := Int.fmod_nonneg_of_pos (k : Int) (show (0 : Int) < 1 by decide)
      show ((k : Int).fmod 1).toNat = 0
      omega
    rw [e] at hx
    exact (Option.some.inj hx).symm
  subst this
  have e : ((0 : Int).fmod (reds t).length).toNat = 0 := by simp
  rw [e] at hu
  unfold Lm
  rw [List.head?_eq_getElem?]
  exact hu
theorem picks_last : Picks Good [-1] := by
  intro t u k x hx hu
  have : x = -1 := by
    have e : ((k : Int).fmod ([-1] : List Int).length).toNat = 0 := by
      have := Int.fmod_lt_of_pos (k : Int) (show (0 : Int) < 1 by decide)
      have := Int.fmod_nonneg_of_pos (k : Int) (show (0 : Int) < 1 by decide)
      show ((k : Int).fmod 1).toNat = 0
      omega
    rw [e] at hx
    exact (Option.some.inj hx).symm
  subst this
  have hp : 0 < (reds t).length := by
    rcases Nat.eq_zero_or_pos (reds t).length with q | q
    · rw [List.length_eq_zero_iff.mp q] at hu
      cases hu
    · exact q
  have e : ((-1 : Int).fmod (reds t).length).toNat = (reds t).length - 1 := by
    have e1 : (-1 : Int).fmod (reds t).length = ((reds t).length : Int) - 1 := by
      rw [Int.fmod_eq_emod_of_nonneg _ (by omega)]
      have := Int.emod_add_mul_ediv (-1) ((reds t).length : Int)
      have h1 : (-1 : Int) % ((reds t).length : Int) = ((reds t).length : Int) - 1 := by
        have h2 : (-1 : Int) = (((reds t).length : Int) - 1) + ((reds t).length : Int) * (-1) := by omega
        rw [h2, Int.add_mul_emod_self_left]
        exact Int.emod_eq_of_lt (by omega) (by omega)
      exact h1
    rw [e1]; omega
  rw [e] at hu
  exact last_good (by rw [List.getLast?_eq_getElem?]; exact hu)
theorem picks_any (tn : List Int) : Picks Step tn := by
  intro t u k x hx hu
  exact mem_reds.mp (List.mem_of_getElem? hu)
theorem reads_pair {h : Heap} {b : Addr} {x : Str} {k : Int} {t1 t2 : Tok} (i : IsTup h b #[.str x t1, .int k t2]) : PySem.Reads h (.ref b) (.tuple [.str x, .int k]) [] := by
  obtain ⟨o, ho, hc, n, hd⟩ := i
  exact reads_tuple_at ho hc hd (.cons (.str _ _) (.cons (.int _ _) .nil))
theorem strOk_text (u : Tr) : PyData.strOk u.text = true := by
  unfold PyData.strOk
  rw [← Array.all_toList, u.toks_text]
  simp only [List.all_map, List.all_eq_true, Function.comp]
  intro x _
  rcases x with _ | l
  · decide
  · cases l <;> decide
theorem shaped_pair (u : Tr) (k : Int) : PySem.SeqAt.shaped (.tuple [.str u.text, .int k]) = true := by
  simp [PySem.SeqAt.shaped, PyData.canLay0, PyData.canLayAll0, PyData.depth, PyData.depthAll]
  exact strOk_text u
theorem eqv_pair (u : Tr) (k : Int) : (!PyData.eqv (.tuple [.str u.text, .int k]) (.tuple [.str u.text, .int k])) = false := by
  simp [PyData.eqv, PyData.eqvAll]
/-- behind the first statement -/
noncomputable def NumIs (s : Shared) (h₀ : Heap) (L : Addr) (fl : Flow) (s' : Shared) : Prop :=
  fl = .next ∧ ∃ (D : Addr) (nums : List Int) (h : Heap) (tk : Nat) (m : Str → Option Value), s' = { s with heap := h, toks := tk } ∧ Fr h₀ L h m ∧ m "numbers" = some (.ref D) ∧ (∃ vsN, h.get? D = some (lobj vsN) ∧ IntsAre vsN nums) ∧ D ≠ L ∧ h₀.get? D = none ∧ nums.length = 8 ∧ ∀ x ∈ nums, 0 ≤ x ∧ x < 1000000
theorem law_rest (w : World) (f : Addr) (cd : Value) (D : Addr) (nums : List Int) (hz : nums.length = 8) (hb : ∀ x ∈ nums, 0 ≤ x ∧ x < 1000000) (A : Around) (s : Shared) (h₁ : Heap) (tk : Nat) (outs : List Env) (mean : ExcName → Option Value) (mg mb : Str → Option Value)
    (C : ∀ h m, Fr s.heap s.heap.objs.size h m → At w (A.deeper (envOf dl.name dl.scope s.heap.objs.size f cd)) 40 h) (hA : A.frames = some outs) (X : (KK w.params).In s.heap) (T : Top qq lq mean mg mb s.heap) (hI0 : ∃ vsN, h₁.get? D = some (lobj vsN) ∧ IntsAre vsN nums) (hDL : D ≠ s.heap.objs.size) (hD0 : s.heap.get? D = none) (m : Str → Option Value) (hm : m "numbers" = some (.ref D))
    (F : Fr s.heap s.heap.objs.size h₁ m) :
    wpAny (MM w) (A.deeper (envOf dl.name dl.scope s.heap.objs.size f cd)) (execs (dl.body.drop 1) (envOf dl.name dl.scope s.heap.objs.size f cd)) (Fin1 s s.heap.objs.size (fun _ r => r = .bool true)) (fun _ _ => False) { s with heap := h₁, toks := tk } := by
  obtain ⟨hdl, dp, frs, gd, un⟩ := A
  obtain rfl : hdl = none := (C _ _ F).hd
  obtain rfl : frs = some outs := hA
  obtain ⟨vsN, hD, hiN⟩ := hI0
  have hI : IntsAt h₁ D nums := lobj_ints hD hiN
  have iD : isSeq (lobj vsN) := ⟨_, _, rfl⟩
  w_on
  have F1 := fr_puts _ F (all1 (x := "numbers") hm)
  simp only [puts] at F1
  have N1 : News s.heap s.heap.objs.size h₁ (allBut s.heap [s.heap.objs.size] h₁) := news_allBut (by simp)
  have K1 : Kept s.heap s.heap.objs.size h₁ (allBut s.heap [s.heap.objs.size] h₁) := ⟨⟨_, F1⟩, rfl⟩
  generalize allBut s.heap [s.heap.objs.size] h₁ = W1 at N1 K1
  clear F
  k_steps
  refine ⟨use_s (does_tree w D nums hz hb) C (by omega) F1 N1 ⟨rfl, hI⟩ ?_⟩
  rintro vt h2 tk2 W2 F2 N2 K2 st2 ⟨t, hts, htt⟩
  replace hI := hI.keeps st2
  replace hD := st2 _ _ hD
  have hdep := t.depth_lt
  k_steps
  rename Fr _ _ _ _ => Fa
  rename News _ _ _ _ => Na
  have sa := K2.seq Fa Na (by walk_at "w_sub")
  refine ⟨use_s (does_plain w t (by omega) vt) C (by omega) Fa Na ⟨rfl, htt.seqStay sa⟩ ?_⟩
  rintro _ h3 tk3 W3 F3 N3 K3 st3 ⟨tk3', rfl⟩
  replace sa := sa.trans (SeqStay.of st3)
  replace htt := htt.seqStay sa
  replace hI := hI.seqStay sa
  replace hD := sa _ _ iD hD
  have htl := t.toks_len
  k_steps
  rename Fr _ _ _ _ => Fb
  rename News _ _ _ _ => Nb
  have sb := K3.seq Fb Nb (by walk_at "w_sub")
  refine ⟨use_s (does_written w D _ nums hz hb t.text t.toks t.toks_text (by omega)) C (by omega) Fb Nb ⟨rfl, hI.seqStay sb⟩ ?_⟩
  rintro _ h4 tk4 W4 F4 N4 K4 st4 ⟨tx, t4, ls, rfl, hrd, hfl⟩
  replace sb := sb.trans (SeqStay.of st4)
  replace htt := htt.seqStay sb
  replace hI := hI.seqStay sb
  replace hD := sb _ _ iD hD
  k_steps
  rename Fr _ _ _ _ => Fc
  rename News _ _ _ _ => Nc
  have sc := K4.seq Fc Nc (by walk_at "w_sub")
  refine ⟨use_s (does_read w tx _ ls hrd (by rw [hfl]; omega)) C (by omega) Fc Nc rfl ?_⟩
  rintro _ h5 tk5 W5 F5 N5 K5 st5 ⟨ra, rfl, hrow⟩
  rw [hfl] at hrow
  replace sc := sc.trans (SeqStay.of st5)
  replace htt := htt.seqStay sc
  replace hI := hI.seqStay sc
  replace hD := sc _ _ iD hD
  k_steps
  rename Fr _ _ _ _ => Fd
  rename News _ _ _ _ => Nd
  have sd := K5.seq Fd Nd (by walk_at "w_sub")
  refine ⟨use_s (does_shown w ra t.toks (by omega)) C (by omega) Fd Nd ⟨rfl, hrow.seqStay sd⟩ ?_⟩
  rintro _ h6 tk6 W6 F6 N6 K6 st6 ⟨tx6, t6, rfl, htx6⟩
  obtain rfl : tx6 = t.text := Str.eq_of (htx6.trans t.toks_text.symm)
  replace sd := sd.trans (SeqStay.of st6)
  replace htt := htt.seqStay sd
  replace hI := hI.seqStay sd
  replace hD := sd _ _ iD hD
  replace hrow := hrow.seqStay sd
  k_steps
  · exfalso
    first
      | (rename (_ == _) = false => q; simp at q; done)
      | (rename (!_) = true => q; simp at q; done)
      | (rename ¬ (_ = _) => q; exact q rfl)
      | (rename (_ ≠ _) => q; exact q rfl)
      | (rename (decide _) = true => q; simp at q; done)
      | (rename (_ != _) = true => q; simp at q; done)
  rename Fr _ _ _ _ => Fe
  rename News _ _ _ _ => Ne
  have se := K6.seq Fe Ne (by walk_at "w_sub")
  have hs0 : t.size + sizes [] = 8 := by simp [sizes, hts]
  refine ⟨use_s (does_outer w 8 t [] (by omega) (by omega) vt _) C (by omega) Fe Ne ⟨rfl, htt.seqStay se, ⟨[], News.isList Ne (by walk_at "mem_now"), .nil⟩⟩ ?_⟩
  rintro _ h7 tk7 W7 F7 N7 K7 st7 ⟨a7, k7, u7, t7, t7', rfl, i7, m7, nf7⟩
  replace se := se.trans (SeqStay.of st7)
  replace htt := htt.seqStay se
  replace hI := hI.seqStay se
  replace hD := se _ _ iD hD
  replace hrow := hrow.seqStay se
  have z7 := m7.size fun _ _ g => g.step
  rw [spine_size, hs0] at z7
  have ut7 := u7.text_len
  k_steps
  rename Fr _ _ _ _ => Fg
  rename News _ _ _ _ => Ng
  have sg' := K7.seq Fg Ng (by walk_at "w_sub")
  refine ⟨use_s (does_inner w t (by omega) vt) C (by omega) Fg Ng ⟨rfl, htt.seqStay sg'⟩ ?_⟩
  rintro _ h8 tk8 W8 F8 N8 K8 st8 ⟨k8, u8, ⟨a8, x8, tk8', c8, rfl, i8, rfl, ht8⟩, m8, nf8⟩
  replace sg' := sg'.trans (SeqStay.of st8)
  replace hI := hI.seqStay sg'
  replace hD := sg' _ _ iD hD
  replace hrow := hrow.seqStay sg'
  have z8 := m8.size fun _ _ g => g.step
  k_steps
  rename Fr _ _ _ _ => Fi
  rename News _ _ _ _ => Ni
  have si := K8.seq Fi Ni (by walk_at "w_sub")
  refine ⟨use_s (does_stepped w Lm (fun _ _ h => h.step) [0] picks_first (by decide) (by decide) (by decide) t (by omega) ra _) C (by omega) Fi Ni ⟨rfl, hrow.seqStay si, ⟨_, News.isList Ni (by walk_at "mem_now"), .cons 0 _ .nil⟩⟩ ?_⟩
  rintro _ h9 tk9 W9 F9 N9 K9 st9 ⟨b9, k9, u9, t9, t9', rfl, i9, m9, nf9⟩
  replace si := si.trans (SeqStay.of st9)
  replace hI := hI.seqStay si
  replace hD := si _ _ iD hD
  replace hrow := hrow.seqStay si
  obtain ⟨l1, rfl⟩ := least m7 nf7 (m9.steps fun _ _ g => g.step) nf9
  obtain ⟨l2, _⟩ := least m9 nf9 (m7.steps fun _ _ g => g.step) nf7
  obtain rfl : k7 = k9 := Nat.le_antisymm l1 l2
  k_steps
  rename Fr _ _ _ _ => Fj
  rename News _ _ _ _ => Nj
  have sj := K9.seq Fj Nj (by walk_at "w_sub")
  refine ⟨ne_dataH (reads_pair (Mine.IsTup.seqStay i9 sj)) (reads_pair (News.isTup Nj (by walk_at "mem_now"))) (shaped_pair _ _) (shaped_pair _ _) (by have := (C _ _ Fj).units; omega) ?_⟩
  rw [eqv_pair]
  k_steps
  rename Fr _ _ _ _ => Fk
  rename News _ _ _ _ => Nk
  have sk := K9.seq Fk Nk (by walk_at "w_sub")
  refine ⟨use_s (does_stepped w Good (fun _ _ h => h.step) [-1] picks_last (by decide) (by decide) (by decide) t (by omega) ra _) C (by omega) Fk Nk ⟨rfl, hrow.seqStay sk, ⟨_, News.isList Nk (by walk_at "mem_now"), .cons (-1) _ .nil⟩⟩ ?_⟩
  rintro _ h10 tk10 W10 F10 N10 K10 st10 ⟨b10, k10, u10, t10, t10', rfl, i10, m10, nf10⟩
  replace sk := sk.trans (SeqStay.of st10)
  replace hI := hI.seqStay sk
  replace hD := sk _ _ iD hD
  replace hrow := hrow.seqStay sk
  obtain ⟨_, rfl⟩ := least m7 nf7 (m10.steps fun _ _ g => g.step) nf10
  obtain ⟨l3, _⟩ := most m8 nf8 (m10.steps fun _ _ g => g.step) nf10
  obtain ⟨l4, _⟩ := most m10 nf10 (m8.steps fun _ _ g => g.step) nf8
  obtain rfl : k8 = k10 := Nat.le_antisymm l4 l3
  k_steps
  rename Fr _ _ _ _ => Fl
  rename News _ _ _ _ => Nl
  have sl := K10.seq Fl Nl (by walk_at "w_sub")
  refine ⟨ne_dataH (reads_pair (Mine.IsTup.seqStay i10 sl)) (reads_pair (News.isTup Nl (by walk_at "mem_now"))) (shaped_pair _ _) (shaped_pair _ _) (by have := (C _ _ Fl).units; omega) ?_⟩
  rw [eqv_pair]
  replace Nl := row_news Nl (sl _ _ iD hD) hDL hD0
  k_steps
  rename (CarriedAll _ _) => hc
  rename Fr _ _ _ _ => Fm
  rename News _ _ _ _ => Nm
  have hcl := hc.intsOf
  rw [List.filter_eq_self.mpr (fun _ _ => rfl)] at hcl
  rename Heap.IsList _ _ (Array.mk _) => hL11
  have sm := K10.seq Fm Nm (by walk_at "w_sub")
  refine ⟨use_s (does_stepped w Step (fun _ _ h => h) (nums.map fun x => x.fdiv 4) (picks_any _) (by simp [hz]) (by simp [hz]) ?_ t (by omega) ra _) C (by omega) Fm Nm ⟨rfl, hrow.seqStay sm, ⟨_, hL11, hcl⟩⟩ ?_⟩
  · intro x hx
    obtain ⟨y, hy, rfl⟩ := List.mem_map.mp hx
    have := hb y hy
    have h1 : y.fdiv 4 = y / 4 := Int.fdiv_eq_ediv_of_nonneg _ (by decide)
    rw [h1]; omega
  rintro _ h11 tk11 W11 F11 N11 K11 st11 ⟨b11, k11, u11, t11, t11', rfl, i11, m11, nf11⟩
  obtain ⟨l5, rfl⟩ := least m7 nf7 m11 nf11
  obtain ⟨l6, _⟩ := most m8 nf8 m11 nf11
  k_steps
  · rename Fr _ _ _ _ => Fn
    rename News _ _ _ _ => Nn
    refine ⟨use_s (does_le w (k7 : Nat) (k11 : Nat) _ _) C (by omega) Fn Nn rfl ?_⟩
    rintro _ h12 tk12 W12 F12 N12 K12 st12 rfl
    rw [decide_eq_true (show (k7 : Int) ≤ k11 by omega)]
    k_steps
    rename Fr _ _ _ _ => Fo
    rename News _ _ _ _ => No
    refine ⟨use_s (does_le w (k11 : Nat) (k8 : Nat) _ _) C (by omega) Fo No rfl ?_⟩
    rintro _ h13 tk13 W13 F13 N13 K13 st13 rfl
    rw [decide_eq_true (show (k11 : Int) ≤ k8 by omega)]
    k_steps
    rename Fr _ _ _ _ => Fp
    exact Fin1.intro Fp rfl
  · exfalso
    rename (_ == _) = false => q
    simp at q
end Mine
/-! part W22 -/
namespace Mine
open PySem PySem.W PyProof.Rows PySem.Calls
theorem fill17 : KK = KK ∧ PySem.Challenge.rw_wf0081_01 = PySem.Challenge.rw_wf0081_01 := by
  k_fill
  exact ⟨rfl, rfl⟩
set_option maxHeartbeats 8000000
local macro_rules | `(tactic| walk_at "call ref") => `(tactic| (refine stop_ ?_))
local macro_rules | `(tactic| walk_at "binaryOp Add ref ref") => `(tactic| (refine stop_ ?_))
theorem law_body (w : World) (f : Addr) (cd : Value) (a : Addr) (ns : List Int) (hn : ns.length ≤ 63) (A : Around) (s : Shared) (h₁ : Heap) (tk : Nat) (outs : List Env) (mean : ExcName → Option Value) (mg mb : Str → Option Value)
    (C : ∀ h m, Fr s.heap s.heap.objs.size h m → At w (A.deeper (envOf dl.name dl.scope s.heap.objs.size f cd)) 40 h) (hA : A.frames = some outs) (X : (KK w.params).In s.heap) (T : Top qq lq mean mg mb s.heap) (hI : IntsAt s.heap a ns)
    (F : Fr s.heap s.heap.objs.size h₁ (fun x => List.lookup x [(Str.ofString "script", .ref a)].reverse)) :
    wpAny (MM w) (A.deeper (envOf dl.name dl.scope s.heap.objs.size f cd)) (execs dl.body (envOf dl.name dl.scope s.heap.objs.size f cd)) (Fin1 s s.heap.objs.size (fun _ r => r = .bool true)) (fun _ _ => False) { s with heap := h₁, toks := tk } := by
  obtain ⟨hdl, dp, frs, gd, un⟩ := A
  obtain rfl : hdl = none := (C _ _ F).hd
  obtain rfl : frs = some outs := hA
  obtain ⟨vs, hl, hi⟩ := hI
  have hvl := hi.length
  w_on
  have N : News s.heap s.heap.objs.size h₁ [] := News.nil
  refine wpAny_execs_cons (rest := dl.body.drop 1) (wpAny_mono (Q := NumIs s s.heap s.heap.objs.size) (E := fun _ _ => False) ?_ (fun fl s' hx => ?_) (fun _ _ e => (e : False).elim))
  · k_steps
    rename IntsAre _ _ => hi2
    rename IntsAre _ (List.map _ _) => hi1
    refine ⟨cat_lst (by assumption) (by assumption) (by is_list) (by is_list) ?_ ?_⟩
    · rw [hi1.length, hi2.length]
      simp only [List.length_map, List.length_take, List.length_drop, List.length_cons, List.length_nil]
      omega
    intro D h F9 N9
    have hnum := lobj_ints (N9 _ (.head _)).1 (IntsAre.append hi1 hi2)
    k_steps
    rename Fr _ _ _ _ => Fz
    rename News _ _ _ _ => Nz
    refine ⟨rfl, D, _, _, _, _, rfl, Fz, rfl, ⟨_, (Nz _ (by walk_at "mem_now")).1, IntsAre.append hi1 hi2⟩, (Nz _ (by walk_at "mem_now")).2.1, (Nz _ (by walk_at "mem_now")).2.2, ?_, ?_⟩
    · rename IntsAre _ (List.take _ _) => hi3
      simp only [List.length_append, List.length_map, List.length_drop, List.size_toArray, hi3.length, Int.toNat_natCast, List.length_take, List.length_cons, List.length_nil]
      omega
    · intro x hx
      have key : ∀ x ∈ ([19, 17, 25, 5, 4, 4, 6, 0] : List Int), 0 ≤ x ∧ x < 1000000 := by decide
      rcases List.mem_append.mp hx with q | q
      · obtain ⟨y, _, rfl⟩ := List.mem_map.mp q
        exact ⟨Int.fmod_nonneg_of_pos _ (by decide), Int.fmod_lt_of_pos _ (by decide)⟩
      · exact key x (List.mem_of_mem_drop q)
  · obtain ⟨rfl, D, nums, h, tk2, m, rfl, F2, hm, hex, hDL, hD0, hz, hb⟩ := hx
    exact law_rest w f cd D nums hz hb _ s h tk2 outs mean mg mb C rfl X T hex hDL hD0 m hm F2
end Mine
/-! part W24 -/
namespace Mine
open PySem PySem.W PyProof.Rows PySem.Calls
theorem fill18 : KK = KK ∧ PySem.Challenge.rw_wf0081_01 = PySem.Challenge.rw_wf0081_01 := by
  k_fill
  exact ⟨rfl, rfl⟩
set_option maxHeartbeats 8000000
theorem the_walk : WalkO qv loose0 (XL qv []) hk.says rr.toRowW dl [] fun f vs => PySem.call f vs := by
  w_on
  k_fill
  intro w s₀ s₁ mg mb G Y fa o pm cd doc dV kV ho hd hcd hD hmg hg args vals as hpre hlay hrd hwl hlo
  have KX := kIn_of Y
  have X := (Ground.X G).1
  have V := (Ground.X G).2
  refine Ground.open G ?_
  intro T B D TE TW
  try (refine guard_noD D (by decide +kernel) ?_; clear D)
  obtain ⟨_, _, M⟩ := bmod_of_top T
  have TA := at_of_top T
  try (obtain ⟨_, _, he, B0⟩ := based_of_top T rfl hmg ho hd; have he' : cd = _ := he; subst he'; clear he)
  clear hmg
  wrow_args hpre hlay hrd hwl hlo
  first | refine callC_kw (enter_call ?_) | refine enter_call ?_
  w_top on
  try refine codeAny_mono ?_ (fun _ _ g => GoodW.toG g)
  have K0 := below_caller (Top.heap T)
  w_call any ho hd hcd hD T F
  clear hd TA
  k_drop
  rename Fr _ _ _ _ => F
  rename Top _ _ _ _ _ _ => T
  rename Below _ _ _ _ => K0
  rename Heap.IsList _ _ _ => hL
  rename IntsAre _ _ => hI
  rename ¬ (_ < _) => hc
  refine wpAny_mono (law_body _ _ _ _ _ (by omega) callerA _ _ _ [] _ _ _ (fun h m F => ⟨rfl, by show callerA.depth + 1 + 40 < recursionLimit; decide +kernel, by show callerA.units + 3 + 8 * 40 < cLine; decide +kernel, ⟨_, _, K0.push F rfl⟩, Frag.In.keeps (by assumption) F.keep, _, _, _, T.keeps F.keep⟩) rfl (by assumption) T ⟨_, hL, hI⟩ F) (fun fl s' x => ?_) (fun _ _ e => (e : False).elim)
  obtain ⟨v, h', tk', m', rfl, rfl, F', rfl⟩ := x
  dsimp only
  refine goodW_bool F' (by assumption) (raisesW_false ?_) ?_
  · wrow_none_raised
  · wrow_post
end Mine
theorem PySem.Challenge.cw_wf0081_01_holds : PySem.Challenge.rw_wf0081_01.Holds :=
  Mine.head Mine.the_walk
