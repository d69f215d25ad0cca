import PyProof.Rows.All
import Wide.All
import OpenK.AllK
import Wide.FinOn
import Open.Tops
import PySem.Challenge.RW_nq0146_01
open PySem PySem.W PyProof.Rows
set_option Elab.async false
set_option maxRecDepth 100000
set_option maxHeartbeats 0
set_option linter.unusedVariables false
namespace Mine
open_shared sh for PySem.Challenge.pw_nq0146_01 leaving 10
noncomputable abbrev pw : Program := PySem.Challenge.pw_nq0146_01
noncomputable def dP (i : Nat) : Arguments := match pw.main.body[i]? with | some (.FunctionDef _ a _ _ _ _ _ _ _ _) => a | _ => default
noncomputable def dB (i : Nat) : List Stmt := match pw.main.body[i]? with | some (.FunctionDef _ _ b _ _ _ _ _ _ _) => b | _ => []
noncomputable def dS (i : Nat) : Scope := match pw.main.body[i]? with | some (.FunctionDef _ _ _ _ _ _ s _ _ _) => s | _ => default
noncomputable def bB : List Stmt := behindTheImports pw
noncomputable def cB : Code := .body bB sh.env_1
noncomputable def q0 : Pos := ⟨0, 0, 0, 0⟩
/-! a run of a tree at the top, as far as its end -/
noncomputable abbrev annB : Option Value := some (.ref 6)
noncomputable abbrev tB : List Frame := [topFrame q0]
section
variable {w : World} {α β : Type}
theorem go_one {n : Nat} {s s₁ : Shared} {t t₁ : Thread} {r : Option (Shared × Thread)} (he : endAt 1 t = none) (hk : stepOk 11 annB t = true)
    (hs : step (denote treeTable) pw w s t = .go s₁ t₁) (h : segGo treeTable pw w 11 annB 1 n s₁ t₁ = r) : segGo treeTable pw w 11 annB 1 (n + 1) s t = r := by
  simp only [segGo, he, hk, hs]; exact h
theorem go_add : ∀ {n m : Nat} {s s' : Shared} {t t' : Thread} {r : Option (Shared × Thread)}, segGo treeTable pw w 11 annB 1 n s t = some (s', t') → segGo treeTable pw w 11 annB 1 m s' t' = r →
    segGo treeTable pw w 11 annB 1 (n + m) s t = r
  | 0, m, s, s', t, t', r, h, k => by
    obtain ⟨rfl, rfl⟩ : s = s' ∧ t = t' := by simpa [segGo] using h
    rw [Nat.zero_add]; exact k
  | n + 1, m, s, s', t, t', r, h, k => by
    rw [show n + 1 + m = n + m + 1 by omega]
    unfold segGo at h ⊢
    cases he : endAt 1 t with
    | some f => rw [he] at h; cases h
    | none =>
      rw [he] at h
      cases hk : stepOk 11 annB t with
      | false => rw [hk] at h; cases h
      | true =>
        rw [hk] at h
        cases hs : step (denote treeTable) pw w s t with
        | halt o s₂ => rw [hs] at h; cases h
        | go s₂ t₂ => rw [hs] at h; exact go_add h k

noncomputable def Goes (w : World) {α : Type} (n : Nat) (x : Sem α) (s : Shared) (q : Pos) (a : α) (s' : Shared) (q' : Pos) : Prop :=
  ∀ (K : α → Sem Fin) (H : Value → Sem Fin) (gd : Bool → Bool) (lv : List Value → List Value),
    segGo treeTable pw w 11 annB 1 n s ⟨x.wrap K H gd lv, cB, q, tB⟩ = some (s', ⟨K a, cB, q', tB⟩)
variable {s s' s'' : Shared} {q q' q'' : Pos} {n m : Nat} {x : Sem α} {a : α} {b : β} {f : α → Sem β}
theorem Goes.cast (h : Goes w n x s q a s' q') (e : n = m) : Goes w m x s q a s' q' := e ▸ h
theorem goes_pure : Goes w 0 (pure a : Sem α) s q a s q := fun _ _ _ _ => rfl
theorem goes_bind (h : Goes w n x s q a s' q') (k : Goes w m (f a) s' q' b s'' q'') : Goes w (n + m) (x >>= f) s q b s'' q'' := fun K H gd lv => by
  rw [Sem.bind_eq_wrap', Sem.wrap_wrap]
  exact go_add (h _ _ _ _) (k K H gd lv)
theorem goes_holding {vs : List Value} (h : Goes w n x s q a s' q') : Goes w n (holding vs x) s q a s' q' := fun K H gd lv => by
  unfold holding
  split
  · exact h K H gd lv
  · rw [Sem.keep_eq_wrap, Sem.wrap_wrap]; exact h _ _ _ _
theorem goes_onRaise {k : Value → Sem Unit} (h : Goes w n x s q a s' q') : Goes w n (x.onRaise k) s q a s' q' := fun K H gd lv => by
  rw [Sem.onRaise_eq_wrap, Sem.wrap_wrap]; exact h _ _ _ _
theorem goes_load {l : Addr} {p : Option Value} {o : Obj} (ho : s.heap.get? l = some o) : Goes w 1 (loadPart l p) s q o s q := fun K H gd lv => by
  refine go_one rfl rfl (s₁ := s) (t₁ := ⟨K o, cB, q, tB⟩) ?_ rfl
  obtain ⟨heap, gens, drawn, toks, os⟩ := s
  simp only [loadPart, Sem.wrap, step, show heap.get? l = some o from ho]
theorem goes_load0 {l : Addr} {o : Obj} (ho : s.heap.get? l = some o) : Goes w 1 (load l) s q o s q := goes_load (p := none) ho
theorem goes_update {l : Addr} {p : Option Value} {o : Obj} {g : Obj → Obj} (ho : s.heap.get? l = some o) (hl : 11 ≤ l) : Goes w 1 (updatePart l p g) s q () { s with heap := s.heap.update l g } q := fun K H gd lv => by
  refine go_one rfl ?_ (s₁ := { s with heap := s.heap.update l g }) (t₁ := ⟨K (), cB, q, tB⟩) ?_ rfl
  · have e : Nat.ble 11 l = true := Nat.ble_eq_true_of_le hl
    show (true && (Nat.ble 11 l || _ || _ || _)) = true
    rw [e]; rfl
  · obtain ⟨heap, gens, drawn, toks, os⟩ := s
    simp only [updatePart, Sem.wrap, step, show heap.get? l = some o from ho, Option.isSome_some, if_true]
theorem goes_alloc {o : Obj} : Goes w 1 (alloc o) s q s.heap.objs.size { s with heap := s.heap.push o } q := fun K H gd lv => go_one rfl rfl (t₁ := ⟨K s.heap.objs.size, cB, q, tB⟩) rfl rfl
theorem goes_rule {t : String} : Goes w 1 (rule t) s q () s q := fun K H gd lv => go_one rfl rfl (t₁ := ⟨K (), cB, q, tB⟩) rfl rfl
theorem goes_standAt {p : Pos} : Goes w 1 (standAt p) s q () s p := fun K H gd lv => go_one rfl rfl (t₁ := ⟨K (), cB, p, tB⟩) rfl rfl
theorem goes_mkInt {i : Int} : Goes w 1 (mkInt i) s q (.int i s.toks) { s with toks := s.toks + 1 } q := fun K H gd lv => go_one rfl rfl (t₁ := ⟨K _, cB, q, tB⟩) rfl rfl
theorem goes_mkText {x : Str} : Goes w 1 (mkText x) s q (.str x s.toks) { s with toks := s.toks + 1 } q := fun K H gd lv => go_one rfl rfl (t₁ := ⟨K _, cB, q, tB⟩) rfl rfl
end

section
noncomputable def hashL (b : Bool) (w : World) (k : Int) (t : Tok) (heap : Heap) (gens : Array GenState) (drawn : Drawn) (toks : Nat) (os : OsState) (q : Pos) (alt : Sem Value) (K : Option Value → Sem Fin) (H : Value → Sem Fin) (gd : Bool → Bool) (lv : List Value → List Value) : Option (Shared × Thread) :=
  segGo treeTable pw (w.withFollow "special-get-raises" b) 11 annB 1 5 ⟨heap, gens, drawn, toks, os⟩ ⟨(callSpecialIfBoundUnlessNone? (.int k t) "__hash__" alt).wrap K H gd lv, cB, q, tB⟩
noncomputable def hashR (b : Bool) (w : World) (k : Int) (t : Tok) (heap : Heap) (gens : Array GenState) (drawn : Drawn) (toks : Nat) (os : OsState) (q : Pos) (alt : Sem Value) (K : Option Value → Sem Fin) (H : Value → Sem Fin) (gd : Bool → Bool) (lv : List Value → List Value) : Option (Shared × Thread) :=
  some (⟨heap, gens, drawn, toks + 1, os⟩, ⟨K (some (.int (rawHash k) toks)), cB, q, tB⟩)
theorem hashL_self : hashL = hashL := rfl
theorem hashR_self : hashR = hashR := rfl
name_quick mineHashL for Mine.hashL by Mine.hashL_self
name_quick mineHashR for Mine.hashR by Mine.hashR_self
theorem hash_f : PySem.W.Fast.mineHashL false = PySem.W.Fast.mineHashR false := by kernel_rfl
theorem hash_t : PySem.W.Fast.mineHashL true = PySem.W.Fast.mineHashR true := by kernel_rfl
theorem hash_b (b : Bool) : hashL b = hashR b := by
  rw [PySem.W.Fast.mineHashL_eq, PySem.W.Fast.mineHashR_eq]
  cases b
  · exact hash_f
  · exact hash_t
section
variable {w : World} {s : Shared} {q : Pos}
theorem goes_callHash {k : Int} {t : Tok} {alt : Sem Value} : Goes w 5 (callSpecialIfBoundUnlessNone? (.int k t) "__hash__" alt) s q (some (.int (rawHash k) s.toks)) { s with toks := s.toks + 1 } q := fun K H gd lv => by
  obtain ⟨heap, gens, drawn, toks, os⟩ := s
  have e := congrFun (congrFun (congrFun (congrFun (congrFun (congrFun (congrFun (congrFun (congrFun (congrFun (congrFun (congrFun (congrFun (congrFun (hash_b (w.params.followText "special-get-raises")) w) k) t) heap) gens) drawn) toks) os) q) alt) K) H) gd) lv
  unfold hashL hashR at e
  rw [World.withFollow_self] at e
  exact e
theorem special_int_hash {k : Int} {t : Tok} : specialOf (.int k t) "__hash__" = pure (some (.builtin "int.__hash__")) := by
  show typeLookup (.type "int") "__hash__" = _
  rw [typeLookup_type, builtinLookup_eq_fast]; kernel_rfl
theorem goes_pyHash {k : Int} {t : Tok} : Goes w 5 (pyHash (.int k t)) s q (hashInt k) { s with toks := s.toks + 1 } q := by
  have hr := rawHash_range k
  show Goes w 5 (pyHashByItsType (.int k t)) s q _ _ q
  unfold pyHashByItsType
  rw [special_int_hash]
  refine (goes_bind (n := 0) (m := 5) (a := ()) (s' := s) (q' := q) ?_ ?_).cast (by omega)
  · rw [cRoomFor, if_neg (by rw [show ([Value.int k t].any Value.onHeap) = false from rfl]; exact Bool.false_ne_true)]; exact goes_pure
  refine (goes_bind (n := 0) (m := 5) goes_pure ?_).cast (by omega)
  show Goes w 5 (if (some (Value.builtin "int.__hash__") == some Value.none) = true then _ else _) _ _ _ _ _
  rw [if_neg (by rw [beq_builtin_none]; exact Bool.false_ne_true)]
  refine (goes_bind (n := 0) (m := 5) goes_pure ?_).cast (by omega)
  refine (goes_bind (n := 0) (m := 5) goes_pure ?_).cast (by omega)
  refine (goes_bind (n := 5) (m := 0) goes_callHash ?_).cast (by omega)
  show Goes w 0 (pyHashByItsType.reduced (rawHash k)) _ q _ _ q
  unfold pyHashByItsType.reduced
  rw [if_pos (by rw [decide_eq_true hr.1, decide_eq_true hr.2]; rfl)]
  exact goes_pure
end
end

section
/-! the dict that the top lays: seventeen pairs at a time -/
noncomputable def dictO (es : List DictEntry) : Obj := ⟨.type "dict", none, .dict es.toArray es.length, #[]⟩
noncomputable def heapD (base : Heap) (main : List DictEntry) (subs : List (List DictEntry)) : Heap := ⟨base.objs ++ (dictO main :: subs.map dictO).toArray, base.life⟩
theorem heapD_size (base : Heap) (main : List DictEntry) (subs : List (List DictEntry)) : (heapD base main subs).objs.size = base.objs.size + 1 + subs.length := by
  simp [heapD]; omega
theorem heapD_main (base : Heap) (main : List DictEntry) (subs : List (List DictEntry)) : (heapD base main subs).get? base.objs.size = some (dictO main) := by
  simp [heapD, Heap.get?, dictO]
theorem heapD_sub (base : Heap) (main : List DictEntry) (subs : List (List DictEntry)) (c : List DictEntry) : (heapD base main (subs ++ [c])).get? (base.objs.size + 1 + subs.length) = some (dictO c) := by
  have : (base.objs ++ (dictO main :: (subs ++ [c]).map dictO).toArray)[base.objs.size + 1 + subs.length]? = some (dictO c) := by
    rw [Array.getElem?_append_right (by omega), List.getElem?_toArray]
    rw [show base.objs.size + 1 + subs.length - base.objs.size = subs.length + 1 by omega, List.getElem?_cons_succ]
    simp
  unfold Heap.get? heapD
  rw [this]; rfl
theorem dictO_push (es : List DictEntry) (e : DictEntry) : Obj.mapDictKeys (·.push e) (dictO es) = dictO (es ++ [e]) := by
  simp [dictO, Obj.mapDictKeys]
theorem heapD_push (base : Heap) (main : List DictEntry) (subs : List (List DictEntry)) (c : List DictEntry) : (heapD base main subs).push (dictO c) = heapD base main (subs ++ [c]) := by
  simp [heapD, Heap.push]
theorem heapD_new (base : Heap) (c : List DictEntry) : base.push (dictO c) = heapD base c [] := by
  simp [heapD, Heap.push]
theorem heapD_upMain (base : Heap) (main : List DictEntry) (subs : List (List DictEntry)) (e : DictEntry) :
    (heapD base main subs).update base.objs.size (Obj.mapDictKeys (·.push e)) = heapD base (main ++ [e]) subs := by
  have : (base.objs ++ (dictO main :: subs.map dictO).toArray).modify base.objs.size (Obj.mapDictKeys (·.push e)) = base.objs ++ (dictO (main ++ [e]) :: subs.map dictO).toArray := by
    apply Array.ext_getElem?
    intro i
    rw [Array.getElem?_modify]
    by_cases h : i < base.objs.size
    · rw [if_neg (by omega), Array.getElem?_append_left h, Array.getElem?_append_left h]
    · rw [Array.getElem?_append_right (by omega), Array.getElem?_append_right (by omega), List.getElem?_toArray, List.getElem?_toArray]
      by_cases h2 : base.objs.size = i
      · subst h2; simp [dictO_push]
      · rw [if_neg h2]
        obtain ⟨j, hj⟩ : ∃ j, i - base.objs.size = j + 1 := ⟨i - base.objs.size - 1, by omega⟩
        rw [hj, List.getElem?_cons_succ, List.getElem?_cons_succ]
  exact congrArg (Heap.mk · base.life) this
theorem heapD_upSub (base : Heap) (main : List DictEntry) (subs : List (List DictEntry)) (c : List DictEntry) (e : DictEntry) :
    (heapD base main (subs ++ [c])).update (base.objs.size + 1 + subs.length) (Obj.mapDictKeys (·.push e)) = heapD base main (subs ++ [c ++ [e]]) := by
  have : (base.objs ++ (dictO main :: (subs ++ [c]).map dictO).toArray).modify (base.objs.size + 1 + subs.length) (Obj.mapDictKeys (·.push e)) = base.objs ++ (dictO main :: (subs ++ [c ++ [e]]).map dictO).toArray := by
    apply Array.ext_getElem?
    intro i
    rw [Array.getElem?_modify]
    by_cases h : i < base.objs.size
    · rw [if_neg (by omega), Array.getElem?_append_left h, Array.getElem?_append_left h]
    · rw [Array.getElem?_append_right (by omega), Array.getElem?_append_right (by omega), List.getElem?_toArray, List.getElem?_toArray]
      rcases Nat.lt_trichotomy i (base.objs.size + 1 + subs.length) with h2 | h2 | h2
      · rw [if_neg (by omega)]
        rcases Nat.eq_or_lt_of_le (Nat.le_of_not_lt h) with h3 | h3
        · subst h3; simp
        · obtain ⟨j, hj⟩ : ∃ j, i - base.objs.size = j + 1 := ⟨i - base.objs.size - 1, by omega⟩
          rw [hj, List.getElem?_cons_succ, List.getElem?_cons_succ, List.map_append, List.map_append, List.getElem?_append_left (by simp; omega), List.getElem?_append_left (by simp; omega)]
      · subst h2
        rw [if_pos rfl, show base.objs.size + 1 + subs.length - base.objs.size = subs.length + 1 by omega, List.getElem?_cons_succ, List.getElem?_cons_succ]
        simp [dictO_push]
      · rw [if_neg (by omega)]
        rw [List.getElem?_eq_none (by simp; omega), List.getElem?_eq_none (by simp; omega)]
  exact congrArg (Heap.mk · base.life) this

section
variable {w : World} {s : Shared} {q : Pos}
theorem places_nil {es : Array DictEntry} {h : Int} (hf : ∀ e ∈ es, e.hash ≠ h) : placesWithHash es.size (fun i => es[i]?.map (·.hash)) h = [] := by
  unfold placesWithHash
  rw [List.filter_eq_nil_iff]
  intro i hi
  have hlt : i < es.size := List.mem_range.mp hi
  show ¬ ((Option.map (·.hash) es[i]?) == some h) = true
  rw [Array.getElem?_eq_getElem hlt]
  simp only [Option.map_some, beq_iff_eq, Option.some.injEq]
  exact hf _ (Array.getElem_mem hlt)
theorem goes_dictFind {d : Addr} {es : List DictEntry} {k : Int} {t : Tok} {h : Int} (ho : s.heap.get? d = some (dictO es)) (hf : ∀ e ∈ es, e.hash ≠ h) :
    Goes w 1 (dictFind d (.int k t) h) s q none s q := by
  unfold dictFind
  refine goes_holding ?_
  refine (goes_bind (n := 1) (m := 0) (a := es.toArray) (s' := s) (q' := q) ?_ ?_).cast rfl
  · unfold dictEntries
    refine (goes_bind (n := 1) (m := 0) (goes_load ho) ?_).cast rfl
    exact goes_pure (a := es.toArray)
  dsimp only
  rw [places_nil (es := es.toArray) (fun e he => hf e (by simpa using he))]
  rw [if_pos (by rfl)]
  exact (goes_bind (n := 0) (m := 0) (goes_bind (n := 0) (m := 0) goes_pure goes_pure) goes_pure).cast rfl
theorem goes_dictKeys {d : Addr} {es : List DictEntry} {e : DictEntry} {p : Option Value} (ho : s.heap.get? d = some (dictO es)) (hd : 11 ≤ d) (hz : es.length ≤ 1000) :
    Goes w 3 (updateDictKeys d (·.push e) p) s q () { s with heap := s.heap.update d (Obj.mapDictKeys (·.push e)) } q := by
  unfold updateDictKeys
  refine (goes_bind (n := 1) (m := 2) (goes_load ho) ?_).cast rfl
  refine (goes_bind (n := 1) (m := 1) (goes_update ho hd) ?_).cast rfl
  unfold lookBehind
  refine (goes_bind (n := 1) (m := 0) (goes_load (o := dictO (es ++ [e])) (by rw [← dictO_push]; exact Heap.get?_update_self _ ho rfl)) ?_).cast rfl
  have : (dictO (es ++ [e])).data.pastItsLine = none := by
    have hs : sizeLine = 16777216 := rfl
    simp only [dictO, Data.pastItsLine, List.size_toArray, List.length_append, List.length_cons, List.length_nil]
    rw [if_neg (by omega)]
  rw [this]
  exact goes_pure
theorem goes_dictPut {d : Addr} {es : List DictEntry} {e : DictEntry} {k : Int} {t : Tok} (hk : e.key = .int k t) (ho : s.heap.get? d = some (dictO es)) (hd : 11 ≤ d) (hz : es.length ≤ 1000) (hf : ∀ x ∈ es, x.hash ≠ e.hash) :
    Goes w 4 (dictPut d e.hash e.key e.val) s q () { s with heap := s.heap.update d (Obj.mapDictKeys (·.push e)) } q := by
  unfold dictPut
  rw [show (fun x : Array DictEntry => x.push ⟨e.hash, e.key, e.val⟩) = (fun x => x.push e) from rfl, hk]
  refine (goes_bind (n := 1) (m := 3) (goes_dictFind ho hf) ?_).cast rfl
  exact goes_dictKeys ho hd hz
theorem goes_dictSet {d : Addr} {es : List DictEntry} {k : Int} {t : Tok} {v : Value} (ho : s.heap.get? d = some (dictO es)) (hd : 11 ≤ d) (hz : es.length ≤ 1000) (hf : ∀ x ∈ es, x.hash ≠ hashInt k) :
    Goes w 10 (dictSet d (.int k t) v) s q () { s with heap := s.heap.update d (Obj.mapDictKeys (·.push ⟨hashInt k, .int k t, v⟩)), toks := s.toks + 1 } q := by
  unfold dictSet
  refine goes_holding ?_
  refine (goes_bind (n := 5) (m := 5) goes_pyHash ?_).cast rfl
  unfold dictSetHashed
  refine goes_holding ?_
  refine (goes_bind (n := 1) (m := 4) (goes_dictFind (s := { s with toks := s.toks + 1 }) ho hf) ?_).cast rfl
  refine (goes_bind (n := 1) (m := 3) goes_rule ?_).cast rfl
  exact goes_dictKeys (s := { s with toks := s.toks + 1 }) ho hd hz
end
end

section
noncomputable def pairSem (pD : Pos) (p : Int × Str) : Sem Value × Sem Value := (mkInt p.1, do let x ← mkText p.2; standAt pD; pure x)
noncomputable def entsL : Nat → List (Int × Str) → List DictEntry
  | _, [] => []
  | t, (i, x) :: r => ⟨hashInt i, .int i t, .str x (t + 1)⟩ :: entsL (t + 3) r
noncomputable def entsS : Nat → List (Int × Str) → List DictEntry
  | _, [] => []
  | t, (i, x) :: r => ⟨hashInt i, .int i t, .str x (t + 1)⟩ :: entsS (t + 2) r
theorem entsL_len : ∀ (t : Nat) (l : List (Int × Str)), (entsL t l).length = l.length
  | _, [] => rfl
  | t, _ :: r => by simp [entsL, entsL_len (t + 3) r]
theorem entsL_hash : ∀ (t : Nat) (l : List (Int × Str)), (entsL t l).map (·.hash) = l.map fun p => hashInt p.1
  | _, [] => rfl
  | t, _ :: r => by simp [entsL, entsL_hash (t + 3) r]
theorem entsS_hash : ∀ (t : Nat) (l : List (Int × Str)), (entsS t l).map (·.hash) = l.map fun p => hashInt p.1
  | _, [] => rfl
  | t, _ :: r => by simp [entsS, entsS_hash (t + 2) r]
theorem entsS_len : ∀ (t : Nat) (l : List (Int × Str)), (entsS t l).length = l.length
  | _, [] => rfl
  | t, _ :: r => by simp [entsS, entsS_len (t + 2) r]
/-- where a dict stands in a heap that is written by what it holds -/
structure Stands (Hc : List DictEntry → Heap) (a : Addr) : Prop where
  at_ : ∀ c, (Hc c).get? a = some (dictO c)
  up : ∀ c e, (Hc c).update a (Obj.mapDictKeys (·.push e)) = Hc (c ++ [e])
  low : 11 ≤ a
section
variable {w : World} {s : Shared} {pD : Pos}
theorem fresh_of {c : List DictEntry} {i : Int} {r : List Int} (h : (c.map (·.hash) ++ i :: r).Nodup) : ∀ x ∈ c, x.hash ≠ i := fun x hx e => by
  have := (List.nodup_append.mp h).2.2
  exact this x.hash (List.mem_map_of_mem hx) i (by simp) e
theorem goes_longLoop {Hc : List DictEntry → Heap} {a : Addr} (D : Stands Hc a) : ∀ (l : List (Int × Str)) (c : List DictEntry) (s : Shared), s.heap = Hc c → (c.map (·.hash) ++ l.map fun p => hashInt p.1).Nodup → c.length + l.length ≤ 1000 →
    Goes w (13 * l.length) (forIn (l.map (pairSem pD)) PUnit.unit fun (x : Sem Value × Sem Value) (_ : PUnit) => (do
        let kv ← x.1
        let vv ← holding [kv] x.2
        holding [kv, vv] (dictSet a kv vv)
        pure (ForInStep.yield PUnit.unit) : Sem (ForInStep PUnit))) s pD PUnit.unit { s with heap := Hc (c ++ entsL s.toks l), toks := s.toks + 3 * l.length } pD
  | [], c, s, hs, _, _ => by
    have e : ({ s with heap := Hc (c ++ entsL s.toks []), toks := s.toks + 3 * ([] : List (Int × Str)).length } : Shared) = s := by
      simp [entsL, ← hs]
    rw [e]
    exact goes_pure
  | (i, x) :: r, c, s, hs, hn, hl => by
    simp only [List.length_cons] at hl
    rw [List.map_cons, List.forIn_cons]
    refine (goes_bind (n := 13) (m := 13 * r.length) (a := ForInStep.yield PUnit.unit) (q' := pD) (s' := { s with heap := Hc (c ++ [⟨hashInt i, .int i s.toks, .str x (s.toks + 1)⟩]), toks := s.toks + 3 }) ?_ ?_).cast (by simp only [List.length_cons]; omega)
    · refine (goes_bind (n := 1) (m := 12) goes_mkInt ?_).cast rfl
      refine (goes_bind (n := 2) (m := 10) (a := .str x (s.toks + 1)) (q' := pD) (s' := { s with toks := s.toks + 2 }) ?_ ?_).cast rfl
      · refine goes_holding ?_
        refine (goes_bind (n := 1) (m := 1) goes_mkText ?_).cast rfl
        refine (goes_bind (n := 1) (m := 0) goes_standAt ?_).cast rfl
        exact goes_pure
      refine (goes_bind (n := 10) (m := 0) (goes_holding (goes_dictSet (d := a) (es := c) ?_ D.low (by omega) (fresh_of hn))) ?_).cast rfl
      · show s.heap.get? a = _
        rw [hs]; exact D.at_ c
      · have e : ({ s with heap := s.heap.update a (Obj.mapDictKeys (·.push ⟨hashInt i, .int i s.toks, .str x (s.toks + 1)⟩)), toks := s.toks + 2 + 1 } : Shared) = { s with heap := Hc (c ++ [⟨hashInt i, .int i s.toks, .str x (s.toks + 1)⟩]), toks := s.toks + 3 } := by
          rw [hs, D.up]
        rw [← e]
        exact goes_pure
    · have k := goes_longLoop D r (c ++ [⟨hashInt i, .int i s.toks, .str x (s.toks + 1)⟩]) { s with heap := Hc (c ++ [⟨hashInt i, .int i s.toks, .str x (s.toks + 1)⟩]), toks := s.toks + 3 } rfl (by simpa using hn) (by simp; omega)
      have e : c ++ entsL s.toks ((i, x) :: r) = c ++ [⟨hashInt i, .int i s.toks, .str x (s.toks + 1)⟩] ++ entsL (s.toks + 3) r := by simp [entsL]
      rw [e]
      have e2 : s.toks + 3 * ((i, x) :: r).length = s.toks + 3 + 3 * r.length := by simp only [List.length_cons]; omega
      rw [e2]
      exact k
theorem goes_subLong {Hc : List DictEntry → Heap} (D : Stands Hc s.heap.objs.size) (h0 : s.heap.push (dictO []) = Hc []) {l : List (Int × Str)} (hl : l.length = 17) (hn : (l.map fun p => hashInt p.1).Nodup) :
    Goes w (13 * 17 + 2) (subDict (l.map (pairSem pD))) s pD s.heap.objs.size { s with heap := Hc (entsL s.toks l), toks := s.toks + 51 } pD := by
  unfold subDict
  refine (goes_bind (n := 1) (m := 13 * 17 + 1) goes_alloc ?_).cast rfl
  have h0' : s.heap.push { cls := .type "dict", data := .dict #[] } = Hc [] := h0
  rw [h0']
  refine (goes_bind (n := 13 * 17 + 1) (m := 0) (a := ()) (q' := pD) (s' := { s with heap := Hc (entsL s.toks l), toks := s.toks + 51 }) (goes_holding ?_) ?_).cast rfl
  rotate_left
  · exact goes_pure
  rw [if_neg (by rw [List.length_map, hl]; omega)]
  refine (goes_bind (n := 1) (m := 13 * 17) goes_rule ?_).cast rfl
  have k := goes_longLoop (w := w) (pD := pD) D l [] { s with heap := Hc [] } rfl (by simpa using hn) (by simp [hl])
  rw [List.nil_append, hl] at k
  refine (goes_bind (n := 13 * 17) (m := 0) k ?_).cast rfl
  exact goes_pure
end
end

section
noncomputable def valsS : Nat → List (Int × Str) → List (Value × Value)
  | _, [] => []
  | t, (i, x) :: r => (.int i t, .str x (t + 1)) :: valsS (t + 2) r
section
variable {w : World} {s : Shared} {pD : Pos}
theorem goes_evalPairs : ∀ (l : List (Int × Str)) (s : Shared), Goes w (3 * l.length) (evalPairs (l.map (pairSem pD))) s pD (valsS s.toks l) { s with toks := s.toks + 2 * l.length } pD
  | [], s => goes_pure
  | (i, x) :: r, s => by
    rw [List.map_cons]
    unfold evalPairs
    refine (goes_bind (n := 1) (m := 2 + 3 * r.length) goes_mkInt ?_).cast (by simp only [List.length_cons]; omega)
    refine (goes_bind (n := 2) (m := 3 * r.length) (a := .str x (s.toks + 1)) (q' := pD) (s' := { s with toks := s.toks + 2 }) ?_ ?_).cast rfl
    · refine goes_holding ?_
      refine (goes_bind (n := 1) (m := 1) goes_mkText ?_).cast rfl
      refine (goes_bind (n := 1) (m := 0) goes_standAt ?_).cast rfl
      exact goes_pure
    have k := goes_evalPairs r { s with toks := s.toks + 2 }
    refine (goes_bind (n := 3 * r.length) (m := 0) (goes_holding k) ?_).cast rfl
    have e2 : s.toks + 2 * ((i, x) :: r).length = s.toks + 2 + 2 * r.length := by simp only [List.length_cons]; omega
    rw [e2]
    exact goes_pure
theorem goes_shortLoop {Hc : List DictEntry → Heap} {a : Addr} (D : Stands Hc a) : ∀ (t : Nat) (l : List (Int × Str)) (c : List DictEntry) (s : Shared), s.heap = Hc c → (c.map (·.hash) ++ l.map fun p => hashInt p.1).Nodup → c.length + l.length ≤ 1000 →
    Goes w (10 * l.length) (forIn (valsS t l) PUnit.unit fun (x : Value × Value) (_ : PUnit) => (do
        dictSet a x.1 x.2
        pure (ForInStep.yield PUnit.unit) : Sem (ForInStep PUnit))) s pD PUnit.unit { s with heap := Hc (c ++ entsS t l), toks := s.toks + l.length } pD
  | t, [], c, s, hs, _, _ => by
    have e : ({ s with heap := Hc (c ++ entsS t []), toks := s.toks + ([] : List (Int × Str)).length } : Shared) = s := by
      simp [entsS, ← hs]
    rw [e]
    exact goes_pure
  | t, (i, x) :: r, c, s, hs, hn, hl => by
    simp only [List.length_cons] at hl
    unfold valsS
    rw [List.forIn_cons]
    refine (goes_bind (n := 10) (m := 10 * r.length) (a := ForInStep.yield PUnit.unit) (q' := pD) (s' := { s with heap := Hc (c ++ [⟨hashInt i, .int i t, .str x (t + 1)⟩]), toks := s.toks + 1 }) ?_ ?_).cast (by simp only [List.length_cons]; omega)
    · refine (goes_bind (n := 10) (m := 0) (goes_dictSet (d := a) (es := c) (by rw [hs]; exact D.at_ c) D.low (by omega) (fresh_of hn)) ?_).cast rfl
      rw [hs, D.up]
      exact goes_pure
    · have k := goes_shortLoop D (t + 2) r (c ++ [⟨hashInt i, .int i t, .str x (t + 1)⟩]) { s with heap := Hc (c ++ [⟨hashInt i, .int i t, .str x (t + 1)⟩]), toks := s.toks + 1 } rfl (by simpa using hn) (by simp; omega)
      have e : c ++ entsS t ((i, x) :: r) = c ++ [⟨hashInt i, .int i t, .str x (t + 1)⟩] ++ entsS (t + 2) r := by simp [entsS]
      rw [e]
      have e2 : s.toks + ((i, x) :: r).length = s.toks + 1 + r.length := by simp only [List.length_cons]; omega
      rw [e2]
      exact k
theorem goes_subShort {Hc : List DictEntry → Heap} (D : Stands Hc s.heap.objs.size) (h0 : s.heap.push (dictO []) = Hc []) {l : List (Int × Str)} (hl : l.length ≤ 15) (hn : (l.map fun p => hashInt p.1).Nodup) :
    Goes w (1 + (3 * l.length + 10 * l.length)) (subDict (l.map (pairSem pD))) s pD s.heap.objs.size { s with heap := Hc (entsS s.toks l), toks := s.toks + 3 * l.length } pD := by
  unfold subDict
  refine (goes_bind (n := 1) (m := 3 * l.length + 10 * l.length) goes_alloc ?_).cast rfl
  have h0' : s.heap.push { cls := .type "dict", data := .dict #[] } = Hc [] := h0
  rw [h0']
  refine (goes_bind (n := 3 * l.length + 10 * l.length) (m := 0) (a := ()) (q' := pD) (s' := { s with heap := Hc (entsS s.toks l), toks := s.toks + 3 * l.length }) (goes_holding ?_) ?_).cast rfl
  rotate_left
  · exact goes_pure
  rw [if_pos (by rw [List.length_map]; exact hl)]
  refine (goes_bind (n := 3 * l.length) (m := 10 * l.length) (goes_evalPairs l { s with heap := Hc [] }) ?_).cast rfl
  refine goes_holding ?_
  have k := goes_shortLoop (w := w) (pD := pD) D s.toks l [] { s with heap := Hc [], toks := s.toks + 2 * l.length } rfl (by simpa using hn) (by simp; omega)
  rw [List.nil_append, show ({ s with heap := Hc [], toks := s.toks + 2 * l.length } : Shared).toks + l.length = s.toks + 3 * l.length by show s.toks + 2 * l.length + l.length = _; omega] at k
  refine (goes_bind (n := 10 * l.length) (m := 0) k ?_).cast rfl
  exact goes_pure

theorem sub_dict_dict : isSubtype (.type "dict") (.type "dict") = pure true := by rw [isSubtype_type]; kernel_rfl
theorem look_dict_iter : typeLookup (.type "dict") "__iter__" = pure (some (.builtin "dict.__iter__")) := by rw [typeLookup_type, builtinLookup_eq_fast]; kernel_rfl
theorem goes_typeOf {a : Addr} {o : Obj} (ho : s.heap.get? a = some o) : Goes w 1 (typeOf (.ref a)) s pD o.cls s pD := by
  show Goes w 1 (do return (← load a).cls) s pD o.cls s pD
  refine (goes_bind (n := 1) (m := 0) (goes_load0 ho) ?_).cast rfl
  exact goes_pure
theorem goes_entries {a : Addr} {es : List DictEntry} (ho : s.heap.get? a = some (dictO es)) : Goes w 1 (dictEntries a) s pD es.toArray s pD := by
  unfold dictEntries
  refine (goes_bind (n := 1) (m := 0) (goes_load ho) ?_).cast rfl
  exact goes_pure (a := es.toArray)
theorem goes_epoch {a : Addr} {es : List DictEntry} (ho : s.heap.get? a = some (dictO es)) : Goes w 1 (dictEpoch a) s pD es.length s pD := by
  unfold dictEpoch
  refine (goes_bind (n := 1) (m := 0) (goes_load ho) ?_).cast rfl
  exact goes_pure (a := es.length)
end
section
variable {w : World} {s : Shared} {pD : Pos}
theorem goes_mergeLoop {Hc : List DictEntry → Heap} {a b : Addr} (D : Stands Hc a) (es : List DictEntry) (hb : ∀ c, (Hc c).get? b = some (dictO es)) (hk : ∀ e ∈ es, ∃ k t, e.key = .int k t) :
    ∀ (post pre : List DictEntry) (c : List DictEntry) (s : Shared), es = pre ++ post → s.heap = Hc c → (c.map (·.hash) ++ post.map (·.hash)).Nodup → c.length + post.length ≤ 1000 →
    Goes w (6 * post.length) (forIn (List.range' pre.length post.length) PUnit.unit fun (i : Nat) (_ : PUnit) => (do
        let x ← dictEntries b
        match x[i]? with
        | some e => do
          holding [e.key, e.val] (if false = true then do
              let y ← dictFind a e.key e.hash
              if y.isSome = true then do
                rule "dict.merge.duplicate-key"
                let z ← newExc (Value.type "KeyError") [e.key]
                let _ ← (raiseNew z : Sem PUnit)
                dictPut a e.hash e.key e.val
              else dictPut a e.hash e.key e.val
            else dictPut a e.hash e.key e.val)
          let n ← dictEpoch b
          if (n != es.length) = true then do
            unsupported "dict.changed-during-merge"
            pure (ForInStep.yield PUnit.unit)
          else pure (ForInStep.yield PUnit.unit)
        | _ => do
          unsupported "dict.changed-during-merge"
          pure (ForInStep.yield PUnit.unit) : Sem (ForInStep PUnit))) s pD PUnit.unit { s with heap := Hc (c ++ post) } pD
  | [], pre, c, s, _, hs, _, _ => by
    rw [List.append_nil, ← hs]
    exact goes_pure
  | e :: post, pre, c, s, he, hs, hn, hl => by
    simp only [List.length_cons] at hl
    rw [List.length_cons, List.range'_succ, List.forIn_cons]
    refine (goes_bind (n := 6) (m := 6 * post.length) (a := ForInStep.yield PUnit.unit) (q' := pD) (s' := { s with heap := Hc (c ++ [e]) }) ?_ ?_).cast (by omega)
    · have hget : s.heap.get? b = some (dictO es) := by rw [hs]; exact hb c
      refine (goes_bind (n := 1) (m := 5) (goes_entries hget) ?_).cast rfl
      have hi : es.toArray[pre.length]? = some e := by rw [he]; simp
      rw [hi]
      dsimp only
      obtain ⟨k, t, hkey⟩ := hk e (by rw [he]; simp)
      refine (goes_bind (n := 4) (m := 1) (a := ()) (q' := pD) (s' := { s with heap := Hc (c ++ [e]) }) (goes_holding ?_) ?_).cast rfl
      · rw [if_neg Bool.false_ne_true]
        have := goes_dictPut (w := w) (q := pD) (s := s) hkey (by rw [hs]; exact D.at_ c) D.low (by omega) (fresh_of hn)
        rw [show s.heap.update a (Obj.mapDictKeys (·.push e)) = Hc (c ++ [e]) by rw [hs, D.up]] at this
        exact this
      · refine (goes_bind (n := 1) (m := 0) (goes_epoch (s := { s with heap := Hc (c ++ [e]) }) (hb _)) ?_).cast rfl
        rw [if_neg (by simp)]
        exact goes_pure
    · have k := goes_mergeLoop D es hb hk post (pre ++ [e]) (c ++ [e]) { s with heap := Hc (c ++ [e]) } (by rw [he]; simp) rfl (by simpa using hn) (by simp; omega)
      rw [List.length_append, List.length_cons, List.length_nil, List.append_assoc] at k
      exact k
theorem goes_merge {Hc : List DictEntry → Heap} {a b : Addr} (D : Stands Hc a) (es : List DictEntry) (hb : ∀ c, (Hc c).get? b = some (dictO es)) (hk : ∀ e ∈ es, ∃ k t, e.key = .int k t)
    (c : List DictEntry) (hs : s.heap = Hc c) (hc : c ≠ []) (hn : (c.map (·.hash) ++ es.map (·.hash)).Nodup) (hl : c.length + es.length ≤ 1000) (hlow : 11 ≤ b) :
    Goes w (5 + 6 * es.length) (mergeMapping a (.ref b) false) s pD () { s with heap := Hc (c ++ es) } pD := by
  unfold mergeMapping
  have hget : s.heap.get? b = some (dictO es) := by rw [hs]; exact hb c
  refine (goes_bind (n := 1) (m := 4 + 6 * es.length) (a := true) (q' := pD) (s' := s) ?_ ?_).cast (by omega)
  · unfold isInstance
    refine (goes_bind (n := 1) (m := 0) (goes_typeOf hget) ?_).cast rfl
    show Goes w 0 (isSubtype (.type "dict") (.type "dict")) s pD true s pD
    rw [sub_dict_dict]; exact goes_pure
  dsimp only
  rw [if_pos rfl]
  refine (goes_bind (n := 1) (m := 3 + 6 * es.length) (a := some (.builtin "dict.__iter__")) (q' := pD) (s' := s) ?_ ?_).cast (by omega)
  · unfold specialOf
    refine (goes_bind (n := 1) (m := 0) (goes_typeOf hget) ?_).cast rfl
    show Goes w 0 (typeLookup (.type "dict") "__iter__") s pD _ s pD
    rw [look_dict_iter]; exact goes_pure
  refine (goes_bind (n := 0) (m := 3 + 6 * es.length) goes_pure ?_).cast (by omega)
  rw [show ((some (Value.builtin "dict.__iter__")) == some (Value.builtin "dict.__iter__")) = true from beq_self_eq_true _]
  dsimp only
  rw [if_neg (by
    have : b ≠ sysModules := fun e => by subst e; exact absurd hlow (by decide)
    simpa using this)]
  refine (goes_bind (n := 1) (m := 2 + 6 * es.length) (goes_entries (by rw [hs]; exact D.at_ c)) ?_).cast (by omega)
  rw [if_neg (by simpa using hc)]
  refine (goes_bind (n := 1) (m := 1 + 6 * es.length) (goes_entries hget) ?_).cast (by omega)
  refine (goes_bind (n := 1) (m := 6 * es.length) (goes_epoch hget) ?_).cast (by omega)
  have k := goes_mergeLoop (w := w) (pD := pD) D es hb hk es [] c s rfl hs hn hl
  rw [List.length_nil, ← List.range_eq_range'] at k
  refine (goes_bind (n := 6 * es.length) (m := 0) (a := PUnit.unit) (q' := pD) (s' := { s with heap := Hc (c ++ es) }) ?_ ?_).cast rfl
  · rw [List.size_toArray]
    exact k
  · exact goes_pure
end
end

section
noncomputable abbrev Pr := Sem Value × Sem Value
noncomputable def toItem (p : Pr) : Option (Sem Value) × Sem Value := (some p.1, p.2)
theorem entsL_append : ∀ (t : Nat) (a b : List (Int × Str)), entsL t (a ++ b) = entsL t a ++ entsL (t + 3 * a.length) b
  | t, [], b => by simp [entsL]
  | t, (i, x) :: a, b => by
    simp only [List.cons_append, entsL, entsL_append (t + 3) a b, List.length_cons]
    rw [show t + 3 + 3 * a.length = t + 3 * (a.length + 1) by omega]
theorem entsL_keys : ∀ (t : Nat) (l : List (Int × Str)), ∀ e ∈ entsL t l, ∃ k u, e.key = .int k u
  | _, [], e, h => by simp [entsL] at h
  | t, (i, x) :: r, e, h => by
    rcases List.mem_cons.mp h with h | h
    · exact ⟨i, t, by rw [h]⟩
    · exact entsL_keys (t + 3) r e h
theorem entsS_keys : ∀ (t : Nat) (l : List (Int × Str)), ∀ e ∈ entsS t l, ∃ k u, e.key = .int k u
  | _, [], e, h => by simp [entsS] at h
  | t, (i, x) :: r, e, h => by
    rcases List.mem_cons.mp h with h | h
    · exact ⟨i, t, by rw [h]⟩
    · exact entsS_keys (t + 2) r e h
section
variable {w : World} {base : Heap} {pD : Pos} {fl : List Pr → Option Addr → Sem (Option Addr)} {F : Option (Sem Value) × Sem Value → Option Addr × List Pr → Sem (ForInStep (Option Addr × List Pr))}
noncomputable def Feeds (fl : List Pr → Option Addr → Sem (Option Addr)) (F : Option (Sem Value) × Sem Value → Option Addr × List Pr → Sem (ForInStep (Option Addr × List Pr))) : Prop :=
  ∀ (p : Pr) (main : Option Addr) (run : List Pr), F (toItem p) (main, run) = if ((run ++ [p]).length == 17) = true then (do let m ← fl (run ++ [p]) main; pure (ForInStep.yield (m, []))) else pure (ForInStep.yield (main, run ++ [p]))
theorem feeds_some (hF : Feeds fl F) {main : Option Addr} {rest : List (Option (Sem Value) × Sem Value)} : ∀ (xs run : List Pr), run.length + xs.length ≤ 16 → forIn (xs.map toItem ++ rest) (main, run) F = forIn rest (main, run ++ xs) F
  | [], run, _ => by rw [List.append_nil]; rfl
  | x :: xs, run, h => by
    simp only [List.length_cons] at h
    rw [List.map_cons, List.cons_append, List.forIn_cons, hF, if_neg (by rw [List.length_append, List.length_cons, List.length_nil, beq_iff_eq]; omega)]
    show forIn (xs.map toItem ++ rest) (main, run ++ [x]) F = _
    rw [feeds_some hF xs (run ++ [x]) (by rw [List.length_append, List.length_cons, List.length_nil]; omega), List.append_assoc]; rfl
theorem feeds_chunk (hF : Feeds fl F) {main : Option Addr} {rest : List (Option (Sem Value) × Sem Value)} {xs : List Pr} (h : xs.length = 17) :
    forIn (xs.map toItem ++ rest) (main, []) F = (fl xs main >>= fun m => forIn rest (m, []) F) := by
  obtain ⟨ys, y, rfl⟩ : ∃ ys y, xs = ys ++ [y] := ⟨xs.dropLast, xs.getLast (by intro e; rw [e] at h; cases h), (List.dropLast_concat_getLast _).symm⟩
  rw [List.length_append, List.length_cons, List.length_nil] at h
  rw [List.map_append, List.append_assoc, feeds_some hF ys [] (by simp; omega), List.nil_append, List.map_cons, List.map_nil, List.cons_append, List.nil_append, List.forIn_cons, hF, if_pos (by rw [List.length_append, List.length_cons, List.length_nil, beq_iff_eq]; omega)]
  rw [Sem.bind_eq_wrap', Sem.bind_eq_wrap', Sem.wrap_wrap, Sem.bind_eq_wrap']
  rfl
noncomputable def subsOf : Nat → List (List (Int × Str)) → List (List DictEntry)
  | _, [] => []
  | t, ch :: r => entsL t ch :: subsOf (t + 51) r
theorem subsOf_len : ∀ (t : Nat) (l : List (List (Int × Str))), (subsOf t l).length = l.length
  | _, [] => rfl
  | t, _ :: r => by simp [subsOf, subsOf_len (t + 51) r]
noncomputable def FlushOk (fl : List Pr → Option Addr → Sem (Option Addr)) : Prop :=
  (∀ x xs, fl (x :: xs) none = (do let a ← subDict (x :: xs); pure (some a))) ∧
  ∀ x xs d, ∃ k : Addr → Value → Sem Unit, fl (x :: xs) (some d) = (do
    let sub ← holding [.ref d] (subDict (x :: xs))
    (holding [.ref d, .ref sub] (mergeMapping d (.ref sub) false)).onRaise (k sub)
    pure (some d))
theorem standsSub (base : Heap) (main : List DictEntry) (subs : List (List DictEntry)) (h : 11 ≤ base.objs.size) : Stands (fun c => heapD base main (subs ++ [c])) (base.objs.size + 1 + subs.length) :=
  ⟨fun c => heapD_sub base main subs c, fun c e => heapD_upSub base main subs c e, by show (11 : Nat) ≤ _; omega⟩
theorem standsMain (base : Heap) (subs : List (List DictEntry)) (h : 11 ≤ base.objs.size) : Stands (fun c => heapD base c subs) base.objs.size :=
  ⟨fun c => heapD_main base c subs, fun c e => heapD_upMain base c subs e, h⟩
theorem goes_flushLong (hfl : FlushOk fl) (hb : 11 ≤ base.objs.size) {main : List DictEntry} {subs : List (List DictEntry)} {s : Shared} (hs : s.heap = heapD base main subs) (hm : main ≠ []) {l : List (Int × Str)} (hl : l.length = 17)
    (hn : (main.map (·.hash) ++ l.map fun p => hashInt p.1).Nodup) (hz : main.length + l.length ≤ 1000) :
    Goes w 330 (fl (l.map (pairSem pD)) (some base.objs.size)) s pD (some base.objs.size) { s with heap := heapD base (main ++ entsL s.toks l) (subs ++ [entsL s.toks l]), toks := s.toks + 51 } pD := by
  obtain ⟨x, xs, rfl⟩ : ∃ x xs, l = x :: xs := by cases l with | nil => cases hl | cons x xs => exact ⟨x, xs, rfl⟩
  obtain ⟨k, hk⟩ := hfl.2 (pairSem pD x) (xs.map (pairSem pD)) base.objs.size
  rw [List.map_cons, hk, ← List.map_cons]
  have hsz : s.heap.objs.size = base.objs.size + 1 + subs.length := by rw [hs, heapD_size]
  have D1 := standsSub base main subs hb
  have g1 := goes_subLong (w := w) (pD := pD) (s := s) (Hc := fun c => heapD base main (subs ++ [c])) (by rw [hsz]; exact D1) (by rw [hs]; exact heapD_push base main subs []) hl (List.nodup_append.mp hn).2.1
  rw [hsz] at g1
  refine (goes_bind (n := 13 * 17 + 2) (m := 107) (goes_holding g1) ?_).cast rfl
  have g2 := goes_merge (w := w) (pD := pD) (s := { s with heap := heapD base main (subs ++ [entsL s.toks (x :: xs)]), toks := s.toks + 51 }) (Hc := fun c => heapD base c (subs ++ [entsL s.toks (x :: xs)])) (a := base.objs.size) (b := base.objs.size + 1 + subs.length)
    (standsMain base _ hb) (entsL s.toks (x :: xs)) (fun c => heapD_sub base c subs _) (entsL_keys _ _) main rfl hm (by rw [entsL_hash]; exact hn) (by rw [entsL_len]; exact hz) (by show (11 : Nat) ≤ _; omega)
  rw [entsL_len, hl] at g2
  refine (goes_bind (n := 5 + 6 * 17) (m := 0) (goes_onRaise (goes_holding g2)) ?_).cast rfl
  exact goes_pure
theorem goes_chunks (hF : Feeds fl F) (hfl : FlushOk fl) (hb : 11 ≤ base.objs.size) {rest : List (Option (Sem Value) × Sem Value)} {r : Option Addr × List Pr} {s' : Shared} {n : Nat} :
    ∀ (chs : List (List (Int × Str))) (main : List DictEntry) (subs : List (List DictEntry)) (s : Shared), s.heap = heapD base main subs → main ≠ [] → (∀ ch ∈ chs, ch.length = 17) → (main.map (·.hash) ++ chs.flatten.map fun p => hashInt p.1).Nodup → main.length + 17 * chs.length ≤ 1000 →
      Goes w n (forIn rest (some base.objs.size, []) F) { s with heap := heapD base (main ++ entsL s.toks chs.flatten) (subs ++ subsOf s.toks chs), toks := s.toks + 51 * chs.length } pD r s' pD →
      Goes w (330 * chs.length + n) (forIn ((chs.flatten.map (pairSem pD)).map toItem ++ rest) (some base.objs.size, []) F) s pD r s' pD
  | [], main, subs, s, hs, _, _, _, _, h => by
    have e : ({ s with heap := heapD base (main ++ entsL s.toks ([] : List (List (Int × Str))).flatten) (subs ++ subsOf s.toks []), toks := s.toks + 51 * ([] : List (List (Int × Str))).length } : Shared) = s := by
      simp [entsL, subsOf, ← hs]
    rw [e] at h
    exact h.cast (by simp)
  | ch :: chs, main, subs, s, hs, hm, hl, hn, hz, h => by
    have hch : ch.length = 17 := hl ch (by simp)
    simp only [List.length_cons] at hz
    rw [List.flatten_cons, List.map_append] at hn
    rw [List.flatten_cons, List.map_append, List.map_append, List.append_assoc, feeds_chunk hF (by rw [List.length_map]; exact hch)]
    refine (goes_bind (n := 330) (m := 330 * chs.length + n) (goes_flushLong hfl hb hs hm hch ?_ (by omega)) ?_).cast (by simp only [List.length_cons]; omega)
    · rw [← List.append_assoc] at hn
      exact (List.nodup_append.mp hn).1
    refine goes_chunks hF hfl hb chs (main ++ entsL s.toks ch) (subs ++ [entsL s.toks ch]) _ rfl (by simp [hm]) (fun c hc => hl c (by simp [hc])) (by rw [List.map_append, entsL_hash, List.append_assoc]; exact hn) (by rw [List.length_append, entsL_len]; omega) ?_
    have e1 : main ++ entsL s.toks (ch :: chs).flatten = main ++ entsL s.toks ch ++ entsL (s.toks + 51) chs.flatten := by
      rw [List.flatten_cons, entsL_append, hch, List.append_assoc]
    have e2 : subs ++ subsOf s.toks (ch :: chs) = subs ++ [entsL s.toks ch] ++ subsOf (s.toks + 51) chs := by simp [subsOf]
    have e3 : s.toks + 51 * (ch :: chs).length = s.toks + 51 + 51 * chs.length := by simp only [List.length_cons]; omega
    rw [e1, e2, e3] at h
    exact h
end
end

section
noncomputable def flushD (run : List Pr) (main : Option Addr) : Sem (Option Addr) :=
  if run.isEmpty = true then pure main else match main with
    | none => do let a ← subDict run; pure (some a)
    | some d => do
      let sub ← holding [.ref d] (subDict run)
      (holding [.ref d, .ref sub] (mergeMapping d (.ref sub) false)).onRaise fun x => do let _ ← holding [.ref d, x] (runValue (.builtin "proto.let_go" {})); pure ()
      pure (some d)
theorem display_form : ∃ (F : Option (Sem Value) × Sem Value → Option Addr × List Pr → Sem (ForInStep (Option Addr × List Pr))), (∀ items, dictDisplay items =
    (forIn items ((none : Option Addr), ([] : List Pr)) F >>= fun st => flushD st.2 st.1 >>= fun r => match r with | some d => pure (.ref d) | none => newDict)) ∧ Feeds flushD F := by
  refine' ⟨_, fun items => by unfold dictDisplay; rfl, ?_⟩
  intro p main run; rfl
theorem flushD_ok : FlushOk flushD := ⟨fun x xs => rfl, fun x xs d => ⟨_, rfl⟩⟩
section
variable {w : World} {base : Heap} {pD : Pos} {s : Shared}
theorem goes_display (hb : 11 ≤ base.objs.size) {c0 last : List (Int × Str)} {chs : List (List (Int × Str))} (hs : s.heap = base) (h0 : c0.length = 17) (hl : ∀ ch ∈ chs, ch.length = 17) (hx : last ≠ []) (hy : last.length ≤ 15)
    (hn : ((c0 ++ (chs.flatten ++ last)).map fun p => hashInt p.1).Nodup) (hz : 17 + 17 * chs.length + last.length ≤ 1000) :
    Goes w (223 + (330 * chs.length + (1 + (3 * last.length + 10 * last.length) + (5 + 6 * last.length)))) (dictDisplay (((c0 ++ (chs.flatten ++ last)).map (pairSem pD)).map toItem)) s pD (.ref base.objs.size)
      { s with heap := heapD base (entsL s.toks c0 ++ entsL (s.toks + 51) chs.flatten ++ entsS (s.toks + 51 + 51 * chs.length) last) (subsOf (s.toks + 51) chs ++ [entsS (s.toks + 51 + 51 * chs.length) last]), toks := s.toks + 51 + 51 * chs.length + 3 * last.length } pD := by
  obtain ⟨F, form, hF⟩ := display_form
  have hfl := flushD_ok
  have hn0 := hn
  rw [List.map_append, List.map_append] at hn
  have hn1 : ((c0.map fun p => hashInt p.1) ++ chs.flatten.map fun p => hashInt p.1).Nodup := by
    rw [← List.append_assoc] at hn; exact (List.nodup_append.mp hn).1
  have hn2 : (last.map fun p => hashInt p.1).Nodup := (List.nodup_append.mp (List.nodup_append.mp hn).2.1).2.1
  rw [form, List.map_append, List.map_append, List.map_append, List.map_append, feeds_chunk hF (by rw [List.length_map]; exact h0)]
  obtain ⟨x, xs, hc0⟩ : ∃ x xs, c0 = x :: xs := by cases c0 with | nil => cases h0 | cons x xs => exact ⟨x, xs, rfl⟩
  have g1 := goes_subLong (w := w) (pD := pD) (s := s) (Hc := fun c => heapD base c []) (l := c0) (by rw [hs]; exact standsMain base [] hb) (by rw [hs]; exact heapD_new base []) h0 (List.nodup_append.mp hn).1
  rw [show s.heap.objs.size = base.objs.size by rw [hs]] at g1
  have g1' : Goes w 223 (flushD (c0.map (pairSem pD)) none) s pD (some base.objs.size) { s with heap := heapD base (entsL s.toks c0) [], toks := s.toks + 51 } pD := by
    rw [hc0, List.map_cons, hfl.1, ← List.map_cons, ← hc0]
    refine (goes_bind (n := 223) (m := 0) g1 ?_).cast rfl
    exact goes_pure
  rw [show (330 * chs.length + (1 + (3 * last.length + 10 * last.length) + (5 + 6 * last.length))) = (330 * chs.length + 0) + (1 + (3 * last.length + 10 * last.length) + (5 + 6 * last.length)) by omega, ← Nat.add_assoc]
  refine goes_bind (n := 223 + (330 * chs.length + 0)) (a := (some base.objs.size, last.map (pairSem pD))) (q' := pD)
    (s' := { s with heap := heapD base (entsL s.toks c0 ++ entsL (s.toks + 51) chs.flatten) (subsOf (s.toks + 51) chs), toks := s.toks + 51 + 51 * chs.length }) ?_ ?_
  · refine goes_bind g1' ?_
    have hne : entsL s.toks c0 ≠ [] := by rw [hc0]; simp [entsL]
    refine goes_chunks hF hfl hb chs (entsL s.toks c0) [] _ rfl hne hl (by rw [entsL_hash]; exact hn1) (by rw [entsL_len, h0]; omega) ?_
    have e := feeds_some (main := some base.objs.size) (rest := []) hF (last.map (pairSem pD)) [] (by simp; omega)
    rw [List.append_nil, List.nil_append] at e
    rw [e, List.nil_append]
    exact goes_pure
  · obtain ⟨y, ys, hla⟩ : ∃ y ys, last = y :: ys := by cases last with | nil => exact absurd rfl hx | cons y ys => exact ⟨y, ys, rfl⟩
    obtain ⟨k, hk⟩ := hfl.2 (pairSem pD y) (ys.map (pairSem pD)) base.objs.size
    rw [hla, List.map_cons, hk, ← List.map_cons, ← hla]
    refine goes_bind (n := 1 + (3 * last.length + 10 * last.length) + (5 + 6 * last.length)) (m := 0) (a := some base.objs.size) (q' := pD) (s' := { s with heap := heapD base (entsL s.toks c0 ++ entsL (s.toks + 51) chs.flatten ++ entsS (s.toks + 51 + 51 * chs.length) last) (subsOf (s.toks + 51) chs ++ [entsS (s.toks + 51 + 51 * chs.length) last]), toks := s.toks + 51 + 51 * chs.length + 3 * last.length }) ?_ goes_pure
    have hsz : (heapD base (entsL s.toks c0 ++ entsL (s.toks + 51) chs.flatten) (subsOf (s.toks + 51) chs)).objs.size = base.objs.size + 1 + (subsOf (s.toks + 51) chs).length := heapD_size _ _ _
    have g3 := goes_subShort (w := w) (pD := pD) (s := { s with heap := heapD base (entsL s.toks c0 ++ entsL (s.toks + 51) chs.flatten) (subsOf (s.toks + 51) chs), toks := s.toks + 51 + 51 * chs.length }) (Hc := fun c => heapD base (entsL s.toks c0 ++ entsL (s.toks + 51) chs.flatten) (subsOf (s.toks + 51) chs ++ [c])) (l := last)
      (by show Stands _ (heapD base _ _).objs.size; rw [hsz]; exact standsSub base _ _ hb) (heapD_push _ _ _ _) hy hn2
    rw [show ({ s with heap := heapD base (entsL s.toks c0 ++ entsL (s.toks + 51) chs.flatten) (subsOf (s.toks + 51) chs), toks := s.toks + 51 + 51 * chs.length } : Shared).heap.objs.size = base.objs.size + 1 + (subsOf (s.toks + 51) chs).length from hsz] at g3
    refine goes_bind (goes_holding g3) ?_
    have g4 := goes_merge (w := w) (pD := pD) (s := { s with heap := heapD base (entsL s.toks c0 ++ entsL (s.toks + 51) chs.flatten) (subsOf (s.toks + 51) chs ++ [entsS (s.toks + 51 + 51 * chs.length) last]), toks := s.toks + 51 + 51 * chs.length + 3 * last.length })
      (Hc := fun c => heapD base c (subsOf (s.toks + 51) chs ++ [entsS (s.toks + 51 + 51 * chs.length) last])) (a := base.objs.size) (b := base.objs.size + 1 + (subsOf (s.toks + 51) chs).length)
      (standsMain base _ hb) (entsS (s.toks + 51 + 51 * chs.length) last) (fun c => heapD_sub base c _ _) (entsS_keys _ _) (entsL s.toks c0 ++ entsL (s.toks + 51) chs.flatten) rfl (by rw [hc0]; simp [entsL])
      (by rw [List.map_append, entsL_hash, entsL_hash, entsS_hash, List.append_assoc]; exact hn) (by
        have : chs.flatten.length = 17 * chs.length := by
          rw [List.length_flatten]
          have : chs.map List.length = List.replicate chs.length 17 := by
            rw [List.eq_replicate_iff]; exact ⟨by simp, fun b hb => by obtain ⟨c, hc, rfl⟩ := List.mem_map.mp hb; exact hl c hc⟩
          rw [this, List.sum_replicate_nat]; omega
        rw [List.length_append, entsL_len, entsL_len, entsS_len, h0, this]; omega) (by show (11 : Nat) ≤ _; omega)
    rw [entsS_len] at g4
    refine (goes_bind (m := 0) (goes_onRaise (goes_holding g4)) ?_).cast rfl
    exact goes_pure
end
end

section
/-! the statement that lays b3_exceptions -/
noncomputable def stAt (i : Nat) : Option Stmt := pw.main.body[i]?
noncomputable def ks26 : List (Option Expr) := match stAt 26 with | some (.Assign _ (.Dict ks _ _) _) => ks | _ => []
noncomputable def vs26 : List Expr := match stAt 26 with | some (.Assign _ (.Dict _ vs _) _) => vs | _ => []
noncomputable def pD26 : Pos := match stAt 26 with | some (.Assign _ (.Dict _ _ p) _) => p | _ => default
noncomputable def ps26 : Pos := match stAt 26 with | some (.Assign _ (.Dict _ _ _) p) => p | _ => default
noncomputable def tg26 : List Expr := match stAt 26 with | some (.Assign t (.Dict _ _ _) _) => t | _ => []
noncomputable def prsOf : List (Option Expr) → List Expr → List (Int × Str)
  | some (.Constant (.int i) _ _) :: ks, .Constant (.str x) _ _ :: vs => (i, x) :: prsOf ks vs
  | _, _ => []
noncomputable def shaped : List (Option Expr) → List Expr → Bool
  | [], [] => true
  | some (.Constant (.int _) _ _) :: ks, .Constant (.str _) _ _ :: vs => shaped ks vs
  | _, _ => false
noncomputable def prsB : List (Int × Str) := prsOf ks26 vs26
theorem items_of (env : Env) (p : Pos) : ∀ (ks : List (Option Expr)) (vs : List Expr), shaped ks vs = true →
    (evalEachOpt ks env).zip ((evalEach vs env).map fun v => do let x ← v; standAt p; pure x) = ((prsOf ks vs).map (pairSem p)).map toItem := by
  intro ks
  induction ks with
  | nil =>
    intro vs h
    cases vs with
    | nil => rfl
    | cons v vs => simp [shaped] at h
  | cons k ks ih =>
    intro vs h
    unfold shaped at h
    split at h
    · rename_i e; cases e
    · rename_i e1
      cases e1
      have e := ih _ h
      simp only [evalEachOpt, evalEach, List.map_cons, List.zip_cons_cons, e, prsOf]
      rfl
    · cases h
theorem shaped26 : shaped ks26 vs26 = true := by kernel_rfl
theorem prs_len : prsB.length = 650 := by kernel_rfl
noncomputable def incr : Int → List Int → Bool
  | _, [] => true
  | a, b :: r => decide (a < b) && incr b r
theorem incr26 : incr 0 (prsB.map (·.1)) = true := by kernel_rfl
theorem last26 : (prsB.map (·.1)).all (fun i => decide (i < 200000)) = true := by kernel_rfl
theorem incr_pair : ∀ (l : List Int) (a : Int), incr a l = true → l.Pairwise (· < ·) ∧ ∀ x ∈ l, a < x
  | [], a, _ => ⟨List.Pairwise.nil, fun _ h => (nomatch h)⟩
  | b :: r, a, h => by
    simp only [incr, Bool.and_eq_true, decide_eq_true_eq] at h
    obtain ⟨h1, h2⟩ := incr_pair r b h.2
    exact ⟨List.Pairwise.cons h2 h1, fun x hx => by rcases List.mem_cons.mp hx with e | e
                                                    · rw [e]; exact h.1
                                                    · exact Int.lt_trans h.1 (h2 x e)⟩
theorem hashInt_small {i : Int} (h0 : 0 < i) (h1 : i < 200000) : hashInt i = i := by
  have h2 : ((i.natAbs : Nat) : Int) = i := by omega
  have h3 : ((i.natAbs : Nat) : Int) % ((2 ^ 61 - 1 : Nat) : Int) = i := by
    rw [h2]
    have : ((2 ^ 61 - 1 : Nat) : Int) = 2305843009213693951 := rfl
    rw [this]
    exact Int.emod_eq_of_lt (by omega) (by omega)
  have h4 : ¬ (i == -1) = true := by simp only [beq_iff_eq]; omega
  have e : rawHash i = i := by
    show (if ((if i < 0 then -(((i.natAbs : Nat) : Int) % ((2 ^ 61 - 1 : Nat) : Int)) else ((i.natAbs : Nat) : Int) % ((2 ^ 61 - 1 : Nat) : Int)) == -1) = true then (-2 : Int) else (if i < 0 then -(((i.natAbs : Nat) : Int) % ((2 ^ 61 - 1 : Nat) : Int)) else ((i.natAbs : Nat) : Int) % ((2 ^ 61 - 1 : Nat) : Int))) = i
    rw [if_neg (show ¬ i < 0 by omega), h3, if_neg h4]
  unfold hashInt
  rw [e, if_neg h4]
theorem nodup26 : (prsB.map fun p => hashInt p.1).Nodup := by
  obtain ⟨h1, h2⟩ := incr_pair _ _ incr26
  have h3 : ∀ x ∈ prsB.map (·.1), hashInt x = x := fun x hx => hashInt_small (h2 x hx) (by simpa using List.all_eq_true.mp last26 x hx)
  have e : (prsB.map fun p => hashInt p.1) = prsB.map (·.1) := by
    rw [show (prsB.map fun p => hashInt p.1) = (prsB.map (·.1)).map hashInt by rw [List.map_map]; rfl]
    exact (List.map_congr_left h3).trans (List.map_id _)
  rw [e]
  exact h1.imp fun h => Int.ne_of_lt h
noncomputable def chunks : Nat → List (Int × Str) → List (List (Int × Str))
  | 0, _ => []
  | n + 1, l => l.take 17 :: chunks n (l.drop 17)
theorem chunks_len : ∀ (n : Nat) (l : List (Int × Str)), (chunks n l).length = n
  | 0, _ => rfl
  | n + 1, l => by simp [chunks, chunks_len n]
theorem chunks_all : ∀ (n : Nat) (l : List (Int × Str)), 17 * n ≤ l.length → ∀ c ∈ chunks n l, c.length = 17
  | 0, _, _, _, h => by simp [chunks] at h
  | n + 1, l, hl, c, h => by
    rcases List.mem_cons.mp h with e | e
    · rw [e, List.length_take]; omega
    · exact chunks_all n (l.drop 17) (by rw [List.length_drop]; omega) c e
theorem chunks_join : ∀ (n : Nat) (l : List (Int × Str)), (chunks n l).flatten ++ l.drop (17 * n) = l
  | 0, l => by simp [chunks]
  | n + 1, l => by
    rw [chunks, List.flatten_cons, List.append_assoc]
    have := chunks_join n (l.drop 17)
    rw [List.drop_drop] at this
    rw [show 17 * (n + 1) = 17 + 17 * n by omega, this, List.take_append_drop]
noncomputable def c0B : List (Int × Str) := prsB.take 17
noncomputable def chsB : List (List (Int × Str)) := chunks 37 (prsB.drop 17)
noncomputable def laB : List (Int × Str) := (prsB.drop 17).drop (17 * 37)
theorem join26 : c0B ++ (chsB.flatten ++ laB) = prsB := by
  unfold c0B chsB laB
  rw [chunks_join, List.take_append_drop]
noncomputable def mainB : List DictEntry := entsL 341 c0B ++ entsL 392 chsB.flatten ++ entsS 2279 laB
noncomputable def subsB : List (List DictEntry) := subsOf 392 chsB ++ [entsS 2279 laB]
theorem la_len : laB.length = 4 := by
  unfold laB; rw [List.length_drop, List.length_drop, prs_len]
section
variable {w : World} {s : Shared} {q : Pos}
theorem goes_dict26 (hb : 11 ≤ s.heap.objs.size) (ht : s.toks = 341) :
    Goes w 12516 (eval (.Dict ks26 vs26 pD26) sh.env_1) s q (.ref s.heap.objs.size) { s with heap := heapD s.heap mainB subsB, toks := 2291 } pD26 := by
  show Goes w 12516 (standAt pD26 >>= fun _ => dictDisplay ((evalEachOpt ks26 sh.env_1).zip ((evalEach vs26 sh.env_1).map fun v => do let x ← v; standAt pD26; pure x))) s q _ _ pD26
  rw [items_of sh.env_1 pD26 ks26 vs26 shaped26]
  refine (goes_bind (n := 1) (m := 12515) goes_standAt ?_).cast rfl
  have k := goes_display (w := w) (pD := pD26) (s := s) (base := s.heap) hb (c0 := c0B) (chs := chsB) (last := laB) rfl (by unfold c0B; rw [List.length_take, prs_len]; rfl)
    (chunks_all 37 _ (by rw [List.length_drop, prs_len]; omega)) (by intro e; have := la_len; rw [e] at this; cases this) (by rw [la_len]; omega) (by rw [join26]; exact nodup26) (by unfold chsB; rw [chunks_len, la_len]; omega)
  rw [join26, show chsB.length = 37 from chunks_len _ _, la_len, ht] at k
  exact k
end
end

section
noncomputable def ob80 : Obj := dictO mainB
noncomputable def obSub (j : Nat) : Obj := dictO (subsB.getD (j - 1) [])
noncomputable def heapA (P : Params) : Heap := ⟨⟨[(boot_o_0 P), (boot_o_1 P), (boot_o_2 P), (boot_o_3 P), (boot_o_4 P), (boot_o_5 P), (boot_o_6 P), (boot_o_7 P), (boot_o_8 P), (boot_o_9 P), (boot_o_10 P), (sh.o_1 P), (sh.o_2 P), (sh.o_3 P), (sh.o_4 P)]⟩, {}⟩
noncomputable def o3a24 (P : Params) : Obj := ⟨(.type "dict"), none, (.dict #[⟨PyData.keyHash P (Str.ofString "__name__"), (.str (Str.ofString "__name__") 165), (.str (Str.ofString "cpy313.stringprep") 272)⟩, ⟨PyData.keyHash P (Str.ofString "__doc__"), (.str (Str.ofString "__doc__") 166), .none⟩, ⟨PyData.keyHash P (Str.ofString "__package__"), (.str (Str.ofString "__package__") 167), .none⟩, ⟨PyData.keyHash P (Str.ofString "__loader__"), (.str (Str.ofString "__loader__") 168), (.builtin "__main__.__loader__#opaque")⟩, ⟨PyData.keyHash P (Str.ofString "__spec__"), (.str (Str.ofString "__spec__") 169), .none⟩, ⟨PyData.keyHash P (Str.ofString "__annotations__"), (.str (Str.ofString "__annotations__") 170), (.ref 6)⟩, ⟨PyData.keyHash P (Str.ofString "__builtins__"), (.str (Str.ofString "__builtins__") 171), (.ref 4)⟩, ⟨PyData.keyHash P (Str.ofString "__file__"), (.str (Str.ofString "__file__") 173), (.str (Str.ofString "/claim/cut.py") 172)⟩, ⟨PyData.keyHash P (Str.ofString "__cached__"), (.str (Str.ofString "__cached__") 174), .none⟩, ⟨PyData.keyHash P (Str.ofString "S_IFMT"), (.str (Str.ofString "S_IFMT") 195), (.ref 21)⟩, ⟨PyData.keyHash P (Str.ofString "S_IFDIR"), (.str (Str.ofString "S_IFDIR") 197), (.int 16384 196)⟩, ⟨PyData.keyHash P (Str.ofString "S_IFCHR"), (.str (Str.ofString "S_IFCHR") 199), (.int 8192 198)⟩, ⟨PyData.keyHash P (Str.ofString "S_IFBLK"), (.str (Str.ofString "S_IFBLK") 201), (.int 24576 200)⟩, ⟨PyData.keyHash P (Str.ofString "S_IFREG"), (.str (Str.ofString "S_IFREG") 203), (.int 32768 202)⟩, ⟨PyData.keyHash P (Str.ofString "S_IFIFO"), (.str (Str.ofString "S_IFIFO") 205), (.int 4096 204)⟩, ⟨PyData.keyHash P (Str.ofString "S_IFLNK"), (.str (Str.ofString "S_IFLNK") 207), (.int 40960 206)⟩, ⟨PyData.keyHash P (Str.ofString "S_IFSOCK"), (.str (Str.ofString "S_IFSOCK") 209), (.int 49152 208)⟩, ⟨PyData.keyHash P (Str.ofString "S_ISUID"), (.str (Str.ofString "S_ISUID") 211), (.int 2048 210)⟩, ⟨PyData.keyHash P (Str.ofString "S_ISGID"), (.str (Str.ofString "S_ISGID") 213), (.int 1024 212)⟩, ⟨PyData.keyHash P (Str.ofString "S_ISVTX"), (.str (Str.ofString "S_ISVTX") 215), (.int 512 214)⟩, ⟨PyData.keyHash P (Str.ofString "S_IRUSR"), (.str (Str.ofString "S_IRUSR") 217), (.int 256 216)⟩, ⟨PyData.keyHash P (Str.ofString "S_IWUSR"), (.str (Str.ofString "S_IWUSR") 219), (.int 128 218)⟩, ⟨PyData.keyHash P (Str.ofString "S_IXUSR"), (.str (Str.ofString "S_IXUSR") 221), (.int 64 220)⟩, ⟨PyData.keyHash P (Str.ofString "S_IRGRP"), (.str (Str.ofString "S_IRGRP") 223), (.int 32 222)⟩, ⟨PyData.keyHash P (Str.ofString "S_IWGRP"), (.str (Str.ofString "S_IWGRP") 225), (.int 16 224)⟩, ⟨PyData.keyHash P (Str.ofString "S_IXGRP"), (.str (Str.ofString "S_IXGRP") 227), (.int 8 226)⟩, ⟨PyData.keyHash P (Str.ofString "S_IROTH"), (.str (Str.ofString "S_IROTH") 229), (.int 4 228)⟩, ⟨PyData.keyHash P (Str.ofString "S_IWOTH"), (.str (Str.ofString "S_IWOTH") 231), (.int 2 230)⟩, ⟨PyData.keyHash P (Str.ofString "S_IXOTH"), (.str (Str.ofString "S_IXOTH") 233), (.int 1 232)⟩, ⟨PyData.keyHash P (Str.ofString "_filemode_table"), (.str (Str.ofString "_filemode_table") 259), (.ref 54)⟩, ⟨PyData.keyHash P (Str.ofString "filemode"), (.str (Str.ofString "filemode") 271), (.ref 61)⟩, ⟨PyData.keyHash P (Str.ofString "b1_set"), (.str (Str.ofString "b1_set") 333), (.ref 69)⟩] 32), #[]⟩
noncomputable def ob62 (P : Params) : Obj := ⟨(.type "list"), none, (.seq #[(.int 173 274), (.int 847 275), (.int 6150 276), (.int 6155 277), (.int 6156 278), (.int 6157 279), (.int 8203 280), (.int 8204 281), (.int 8205 282), (.int 8288 283), (.int 65279 284)] 0), #[]⟩
noncomputable def ob63 (P : Params) : Obj := ⟨(.type "range"), none, (.fields #[(.int 65024 285), (.int 65040 286), (.int 1 287)]), #[]⟩
noncomputable def ob64 (P : Params) : Obj := ⟨(.type "list"), none, (.seq #[(.int 65024 290), (.int 65025 291), (.int 65026 292), (.int 65027 293), (.int 65028 294), (.int 65029 295), (.int 65030 296), (.int 65031 297), (.int 65032 298), (.int 65033 299), (.int 65034 300), (.int 65035 301), (.int 65036 302), (.int 65037 303), (.int 65038 304), (.int 65039 305)] 18), #[]⟩
noncomputable def ob65 (P : Params) : Obj := ⟨(.type "range_iterator"), none, (.fields #[(.int 65040 0), (.int 0 0), (.int 1 0)]), #[]⟩
noncomputable def ob66 (P : Params) : Obj := ⟨(.type "tuple"), none, (.seq #[] 0), #[]⟩
noncomputable def ob67 (P : Params) : Obj := ⟨(.type "StopIteration"), none, (.fields #[(.ref 66), .none, .none, .none, (.bool false), .none]), #[]⟩
noncomputable def ob68 (P : Params) : Obj := ⟨(.type "list"), none, (.seq #[(.int 173 274), (.int 847 275), (.int 6150 276), (.int 6155 277), (.int 6156 278), (.int 6157 279), (.int 8203 280), (.int 8204 281), (.int 8205 282), (.int 8288 283), (.int 65279 284), (.int 65024 290), (.int 65025 291), (.int 65026 292), (.int 65027 293), (.int 65028 294), (.int 65029 295), (.int 65030 296), (.int 65031 297), (.int 65032 298), (.int 65033 299), (.int 65034 300), (.int 65035 301), (.int 65036 302), (.int 65037 303), (.int 65038 304), (.int 65039 305)] 0), #[]⟩
noncomputable def ob69 (P : Params) : Obj := ⟨(.type "set"), none, (.set #[(65024, (.int 65024 290)), (65025, (.int 65025 291)), (65026, (.int 65026 292)), (65027, (.int 65027 293)), (65028, (.int 65028 294)), (65029, (.int 65029 295)), (6150, (.int 6150 276)), (65030, (.int 65030 296)), (65031, (.int 65031 297)), (65032, (.int 65032 298)), (65033, (.int 65033 299)), (6155, (.int 6155 277)), (6156, (.int 6156 278)), (6157, (.int 6157 279)), (8203, (.int 8203 280)), (8204, (.int 8204 281)), (8205, (.int 8205 282)), (65034, (.int 65034 300)), (65035, (.int 65035 301)), (65036, (.int 65036 302)), (65037, (.int 65037 303)), (65038, (.int 65038 304)), (65039, (.int 65039 305)), (173, (.int 173 274)), (847, (.int 847 275)), (8288, (.int 8288 283)), (65279, (.int 65279 284))] 29 ⟨127, #[0, 1, 2, 3, 4, 5, 6, 7, 8, 9, 10, 11, 12, 13, 14, 15, 16, 17, 18, 19, 20, 21, 22, 45, 79, 96, 127], #[], 0, !P.followText "set-order", 2, true⟩), #[]⟩
noncomputable def ob70 (P : Params) : Obj := ⟨(.type "list_iterator"), none, (.fields #[.none, (.int 27 0)]), #[]⟩
noncomputable def ob71 (P : Params) : Obj := ⟨(.type "tuple"), none, (.seq #[] 0), #[]⟩
noncomputable def ob72 (P : Params) : Obj := ⟨(.type "StopIteration"), none, (.fields #[(.ref 71), .none, .none, .none, (.bool false), .none]), #[]⟩
noncomputable def tr24 (P : Params) : BT := (.node (boot_o_0 P) (.node (boot_o_1 P) (.node (o3a24 P) (.node (boot_o_7 P) (.node (sh.o_7 P) (.node (sh.o_23 P) (.node (ob63 P) .nil .nil) .nil) (.node (sh.o_39 P) .nil .nil)) (.node (sh.o_15 P) (.node (sh.o_31 P) (.node (ob71 P) .nil .nil) .nil) (.node (sh.o_50 P) .nil .nil))) (.node (sh.o_1 P) (.node (sh.o_11 P) (.node (sh.o_27 P) (.node (ob67 P) .nil .nil) .nil) (.node (sh.o_43 P) .nil .nil)) (.node (sh.o_19 P) (.node (sh.o_35 P) .nil .nil) (.node (sh.o_54 P) .nil .nil)))) (.node (boot_o_5 P) (.node (boot_o_9 P) (.node (sh.o_9 P) (.node (sh.o_25 P) (.node (ob65 P) .nil .nil) .nil) (.node (sh.o_41 P) .nil .nil)) (.node (sh.o_17 P) (.node (sh.o_33 P) .nil .nil) (.node (sh.o_52 P) .nil .nil))) (.node (sh.o_3 P) (.node (sh.o_13 P) (.node (sh.o_29 P) (.node (ob69 P) .nil .nil) .nil) (.node (sh.o_45 P) .nil .nil)) (.node (sh.o_21 P) (.node (sh.o_37 P) .nil .nil) (.node (sh.o_56 P) .nil .nil))))) (.node (boot_o_2 P) (.node (boot_o_4 P) (.node (boot_o_8 P) (.node (sh.o_8 P) (.node (sh.o_24 P) (.node (ob64 P) .nil .nil) .nil) (.node (sh.o_40 P) .nil .nil)) (.node (sh.o_16 P) (.node (sh.o_32 P) (.node (ob72 P) .nil .nil) .nil) (.node (sh.o_51 P) .nil .nil))) (.node (sh.o_49 P) (.node (sh.o_12 P) (.node (sh.o_28 P) (.node (ob68 P) .nil .nil) .nil) (.node (sh.o_44 P) .nil .nil)) (.node (sh.o_20 P) (.node (sh.o_36 P) .nil .nil) (.node (sh.o_55 P) .nil .nil)))) (.node (boot_o_6 P) (.node (boot_o_10 P) (.node (sh.o_10 P) (.node (sh.o_26 P) (.node (ob66 P) .nil .nil) .nil) (.node (sh.o_42 P) .nil .nil)) (.node (sh.o_18 P) (.node (sh.o_34 P) .nil .nil) (.node (sh.o_53 P) .nil .nil))) (.node (sh.o_4 P) (.node (sh.o_14 P) (.node (sh.o_30 P) (.node (ob70 P) .nil .nil) .nil) (.node (sh.o_46 P) .nil .nil)) (.node (sh.o_22 P) (.node (sh.o_38 P) .nil .nil) (.node (ob62 P) .nil .nil))))))
noncomputable def o3a25 (P : Params) : Obj := ⟨(.type "dict"), none, (.dict #[⟨PyData.keyHash P (Str.ofString "__name__"), (.str (Str.ofString "__name__") 165), (.str (Str.ofString "cpy313.stringprep") 272)⟩, ⟨PyData.keyHash P (Str.ofString "__doc__"), (.str (Str.ofString "__doc__") 166), .none⟩, ⟨PyData.keyHash P (Str.ofString "__package__"), (.str (Str.ofString "__package__") 167), .none⟩, ⟨PyData.keyHash P (Str.ofString "__loader__"), (.str (Str.ofString "__loader__") 168), (.builtin "__main__.__loader__#opaque")⟩, ⟨PyData.keyHash P (Str.ofString "__spec__"), (.str (Str.ofString "__spec__") 169), .none⟩, ⟨PyData.keyHash P (Str.ofString "__annotations__"), (.str (Str.ofString "__annotations__") 170), (.ref 6)⟩, ⟨PyData.keyHash P (Str.ofString "__builtins__"), (.str (Str.ofString "__builtins__") 171), (.ref 4)⟩, ⟨PyData.keyHash P (Str.ofString "__file__"), (.str (Str.ofString "__file__") 173), (.str (Str.ofString "/claim/cut.py") 172)⟩, ⟨PyData.keyHash P (Str.ofString "__cached__"), (.str (Str.ofString "__cached__") 174), .none⟩, ⟨PyData.keyHash P (Str.ofString "S_IFMT"), (.str (Str.ofString "S_IFMT") 195), (.ref 21)⟩, ⟨PyData.keyHash P (Str.ofString "S_IFDIR"), (.str (Str.ofString "S_IFDIR") 197), (.int 16384 196)⟩, ⟨PyData.keyHash P (Str.ofString "S_IFCHR"), (.str (Str.ofString "S_IFCHR") 199), (.int 8192 198)⟩, ⟨PyData.keyHash P (Str.ofString "S_IFBLK"), (.str (Str.ofString "S_IFBLK") 201), (.int 24576 200)⟩, ⟨PyData.keyHash P (Str.ofString "S_IFREG"), (.str (Str.ofString "S_IFREG") 203), (.int 32768 202)⟩, ⟨PyData.keyHash P (Str.ofString "S_IFIFO"), (.str (Str.ofString "S_IFIFO") 205), (.int 4096 204)⟩, ⟨PyData.keyHash P (Str.ofString "S_IFLNK"), (.str (Str.ofString "S_IFLNK") 207), (.int 40960 206)⟩, ⟨PyData.keyHash P (Str.ofString "S_IFSOCK"), (.str (Str.ofString "S_IFSOCK") 209), (.int 49152 208)⟩, ⟨PyData.keyHash P (Str.ofString "S_ISUID"), (.str (Str.ofString "S_ISUID") 211), (.int 2048 210)⟩, ⟨PyData.keyHash P (Str.ofString "S_ISGID"), (.str (Str.ofString "S_ISGID") 213), (.int 1024 212)⟩, ⟨PyData.keyHash P (Str.ofString "S_ISVTX"), (.str (Str.ofString "S_ISVTX") 215), (.int 512 214)⟩, ⟨PyData.keyHash P (Str.ofString "S_IRUSR"), (.str (Str.ofString "S_IRUSR") 217), (.int 256 216)⟩, ⟨PyData.keyHash P (Str.ofString "S_IWUSR"), (.str (Str.ofString "S_IWUSR") 219), (.int 128 218)⟩, ⟨PyData.keyHash P (Str.ofString "S_IXUSR"), (.str (Str.ofString "S_IXUSR") 221), (.int 64 220)⟩, ⟨PyData.keyHash P (Str.ofString "S_IRGRP"), (.str (Str.ofString "S_IRGRP") 223), (.int 32 222)⟩, ⟨PyData.keyHash P (Str.ofString "S_IWGRP"), (.str (Str.ofString "S_IWGRP") 225), (.int 16 224)⟩, ⟨PyData.keyHash P (Str.ofString "S_IXGRP"), (.str (Str.ofString "S_IXGRP") 227), (.int 8 226)⟩, ⟨PyData.keyHash P (Str.ofString "S_IROTH"), (.str (Str.ofString "S_IROTH") 229), (.int 4 228)⟩, ⟨PyData.keyHash P (Str.ofString "S_IWOTH"), (.str (Str.ofString "S_IWOTH") 231), (.int 2 230)⟩, ⟨PyData.keyHash P (Str.ofString "S_IXOTH"), (.str (Str.ofString "S_IXOTH") 233), (.int 1 232)⟩, ⟨PyData.keyHash P (Str.ofString "_filemode_table"), (.str (Str.ofString "_filemode_table") 259), (.ref 54)⟩, ⟨PyData.keyHash P (Str.ofString "filemode"), (.str (Str.ofString "filemode") 271), (.ref 61)⟩, ⟨PyData.keyHash P (Str.ofString "b1_set"), (.str (Str.ofString "b1_set") 333), (.ref 69)⟩, ⟨PyData.keyHash P (Str.ofString "in_table_b1"), (.str (Str.ofString "in_table_b1") 340), (.ref 79)⟩] 33), #[]⟩
noncomputable def o12a25 (P : Params) : Obj := ⟨.none, none, (.fields #[(.int 2 0), (.int 0 0), (.ref 20), (.int 24 0), (.int 0 0), (.ref 60), (.int 43 0), (.int 0 0), (.ref 78)]), #[]⟩
noncomputable def ob73 (P : Params) : Obj := ⟨(.type "tuple"), none, (.seq #[] 0), #[]⟩
noncomputable def ob74 (P : Params) : Obj := ⟨.none, none, (.fields #[]), #[]⟩
noncomputable def ob75 (P : Params) : Obj := ⟨(.type "tuple"), none, (.seq #[(.str (Str.ofString "code") 337)] 0), #[]⟩
noncomputable def ob76 (P : Params) : Obj := ⟨(.type "tuple"), none, (.seq #[] 0), #[]⟩
noncomputable def ob77 (P : Params) : Obj := ⟨.none, none, (.func { name := (Str.ofString "in_table_b1"), qualname := (Str.ofString "in_table_b1"), params := dP 25, body := .stmts (dB 25), scope := dS 25, globals := 0, closure := [], defaults := .none, kwdefaults := .none, doc := .none, pyModule := .none, annotations := none, code := .none, closureTuple := .none, builtins := 0 }), #[]⟩
noncomputable def ob78 (P : Params) : Obj := ⟨(.type "code"), none, (.fields #[(.str (Str.ofString "in_table_b1") 334), (.str (Str.ofString "in_table_b1") 335), (.str (Str.ofString "/claim/cut.py") 336), (.int 43 0), (.int 1 0), (.int 0 0), (.int 0 0), (.int 3 0), (.ref 73), (.bool true), (.int 181 0), (.ref 74), .none, (.ref 75), (.ref 76), (.ref 77), (.int 338 0), (.int 43 0), (.str (Str.ofString "/claim/cut.py") 339)]), #[]⟩
noncomputable def ob79 (P : Params) : Obj := ⟨(.type "function"), none, (.func { name := (Str.ofString "in_table_b1"), qualname := (Str.ofString "in_table_b1"), params := dP 25, body := .stmts (dB 25), scope := dS 25, globals := 3, closure := [], defaults := .none, kwdefaults := .none, doc := .none, pyModule := (.str (Str.ofString "cpy313.stringprep") 272), annotations := none, code := (.ref 78), closureTuple := .none, builtins := 0 }), #[]⟩
noncomputable def tr25 (P : Params) : BT := (.node (boot_o_0 P) (.node (boot_o_1 P) (.node (o3a25 P) (.node (boot_o_7 P) (.node (sh.o_7 P) (.node (sh.o_23 P) (.node (ob63 P) .nil .nil) .nil) (.node (sh.o_39 P) (.node (ob79 P) .nil .nil) .nil)) (.node (sh.o_15 P) (.node (sh.o_31 P) (.node (ob71 P) .nil .nil) .nil) (.node (sh.o_50 P) .nil .nil))) (.node (sh.o_1 P) (.node (sh.o_11 P) (.node (sh.o_27 P) (.node (ob67 P) .nil .nil) .nil) (.node (sh.o_43 P) .nil .nil)) (.node (sh.o_19 P) (.node (sh.o_35 P) (.node (ob75 P) .nil .nil) .nil) (.node (sh.o_54 P) .nil .nil)))) (.node (boot_o_5 P) (.node (boot_o_9 P) (.node (sh.o_9 P) (.node (sh.o_25 P) (.node (ob65 P) .nil .nil) .nil) (.node (sh.o_41 P) .nil .nil)) (.node (sh.o_17 P) (.node (sh.o_33 P) (.node (ob73 P) .nil .nil) .nil) (.node (sh.o_52 P) .nil .nil))) (.node (sh.o_3 P) (.node (sh.o_13 P) (.node (sh.o_29 P) (.node (ob69 P) .nil .nil) .nil) (.node (sh.o_45 P) .nil .nil)) (.node (sh.o_21 P) (.node (sh.o_37 P) (.node (ob77 P) .nil .nil) .nil) (.node (sh.o_56 P) .nil .nil))))) (.node (boot_o_2 P) (.node (boot_o_4 P) (.node (boot_o_8 P) (.node (sh.o_8 P) (.node (sh.o_24 P) (.node (ob64 P) .nil .nil) .nil) (.node (sh.o_40 P) .nil .nil)) (.node (sh.o_16 P) (.node (sh.o_32 P) (.node (ob72 P) .nil .nil) .nil) (.node (sh.o_51 P) .nil .nil))) (.node (o12a25 P) (.node (sh.o_12 P) (.node (sh.o_28 P) (.node (ob68 P) .nil .nil) .nil) (.node (sh.o_44 P) .nil .nil)) (.node (sh.o_20 P) (.node (sh.o_36 P) (.node (ob76 P) .nil .nil) .nil) (.node (sh.o_55 P) .nil .nil)))) (.node (boot_o_6 P) (.node (boot_o_10 P) (.node (sh.o_10 P) (.node (sh.o_26 P) (.node (ob66 P) .nil .nil) .nil) (.node (sh.o_42 P) .nil .nil)) (.node (sh.o_18 P) (.node (sh.o_34 P) (.node (ob74 P) .nil .nil) .nil) (.node (sh.o_53 P) .nil .nil))) (.node (sh.o_4 P) (.node (sh.o_14 P) (.node (sh.o_30 P) (.node (ob70 P) .nil .nil) .nil) (.node (sh.o_46 P) .nil .nil)) (.node (sh.o_22 P) (.node (sh.o_38 P) (.node (ob78 P) .nil .nil) .nil) (.node (ob62 P) .nil .nil))))))
noncomputable def o3a26 (P : Params) : Obj := ⟨(.type "dict"), none, (.dict #[⟨PyData.keyHash P (Str.ofString "__name__"), (.str (Str.ofString "__name__") 165), (.str (Str.ofString "cpy313.stringprep") 272)⟩, ⟨PyData.keyHash P (Str.ofString "__doc__"), (.str (Str.ofString "__doc__") 166), .none⟩, ⟨PyData.keyHash P (Str.ofString "__package__"), (.str (Str.ofString "__package__") 167), .none⟩, ⟨PyData.keyHash P (Str.ofString "__loader__"), (.str (Str.ofString "__loader__") 168), (.builtin "__main__.__loader__#opaque")⟩, ⟨PyData.keyHash P (Str.ofString "__spec__"), (.str (Str.ofString "__spec__") 169), .none⟩, ⟨PyData.keyHash P (Str.ofString "__annotations__"), (.str (Str.ofString "__annotations__") 170), (.ref 6)⟩, ⟨PyData.keyHash P (Str.ofString "__builtins__"), (.str (Str.ofString "__builtins__") 171), (.ref 4)⟩, ⟨PyData.keyHash P (Str.ofString "__file__"), (.str (Str.ofString "__file__") 173), (.str (Str.ofString "/claim/cut.py") 172)⟩, ⟨PyData.keyHash P (Str.ofString "__cached__"), (.str (Str.ofString "__cached__") 174), .none⟩, ⟨PyData.keyHash P (Str.ofString "S_IFMT"), (.str (Str.ofString "S_IFMT") 195), (.ref 21)⟩, ⟨PyData.keyHash P (Str.ofString "S_IFDIR"), (.str (Str.ofString "S_IFDIR") 197), (.int 16384 196)⟩, ⟨PyData.keyHash P (Str.ofString "S_IFCHR"), (.str (Str.ofString "S_IFCHR") 199), (.int 8192 198)⟩, ⟨PyData.keyHash P (Str.ofString "S_IFBLK"), (.str (Str.ofString "S_IFBLK") 201), (.int 24576 200)⟩, ⟨PyData.keyHash P (Str.ofString "S_IFREG"), (.str (Str.ofString "S_IFREG") 203), (.int 32768 202)⟩, ⟨PyData.keyHash P (Str.ofString "S_IFIFO"), (.str (Str.ofString "S_IFIFO") 205), (.int 4096 204)⟩, ⟨PyData.keyHash P (Str.ofString "S_IFLNK"), (.str (Str.ofString "S_IFLNK") 207), (.int 40960 206)⟩, ⟨PyData.keyHash P (Str.ofString "S_IFSOCK"), (.str (Str.ofString "S_IFSOCK") 209), (.int 49152 208)⟩, ⟨PyData.keyHash P (Str.ofString "S_ISUID"), (.str (Str.ofString "S_ISUID") 211), (.int 2048 210)⟩, ⟨PyData.keyHash P (Str.ofString "S_ISGID"), (.str (Str.ofString "S_ISGID") 213), (.int 1024 212)⟩, ⟨PyData.keyHash P (Str.ofString "S_ISVTX"), (.str (Str.ofString "S_ISVTX") 215), (.int 512 214)⟩, ⟨PyData.keyHash P (Str.ofString "S_IRUSR"), (.str (Str.ofString "S_IRUSR") 217), (.int 256 216)⟩, ⟨PyData.keyHash P (Str.ofString "S_IWUSR"), (.str (Str.ofString "S_IWUSR") 219), (.int 128 218)⟩, ⟨PyData.keyHash P (Str.ofString "S_IXUSR"), (.str (Str.ofString "S_IXUSR") 221), (.int 64 220)⟩, ⟨PyData.keyHash P (Str.ofString "S_IRGRP"), (.str (Str.ofString "S_IRGRP") 223), (.int 32 222)⟩, ⟨PyData.keyHash P (Str.ofString "S_IWGRP"), (.str (Str.ofString "S_IWGRP") 225), (.int 16 224)⟩, ⟨PyData.keyHash P (Str.ofString "S_IXGRP"), (.str (Str.ofString "S_IXGRP") 227), (.int 8 226)⟩, ⟨PyData.keyHash P (Str.ofString "S_IROTH"), (.str (Str.ofString "S_IROTH") 229), (.int 4 228)⟩, ⟨PyData.keyHash P (Str.ofString "S_IWOTH"), (.str (Str.ofString "S_IWOTH") 231), (.int 2 230)⟩, ⟨PyData.keyHash P (Str.ofString "S_IXOTH"), (.str (Str.ofString "S_IXOTH") 233), (.int 1 232)⟩, ⟨PyData.keyHash P (Str.ofString "_filemode_table"), (.str (Str.ofString "_filemode_table") 259), (.ref 54)⟩, ⟨PyData.keyHash P (Str.ofString "filemode"), (.str (Str.ofString "filemode") 271), (.ref 61)⟩, ⟨PyData.keyHash P (Str.ofString "b1_set"), (.str (Str.ofString "b1_set") 333), (.ref 69)⟩, ⟨PyData.keyHash P (Str.ofString "in_table_b1"), (.str (Str.ofString "in_table_b1") 340), (.ref 79)⟩, ⟨PyData.keyHash P (Str.ofString "b3_exceptions"), (.str (Str.ofString "b3_exceptions") 2291), (.ref 80)⟩] 34), #[]⟩
noncomputable def tr26p (P : Params) : BT := (.node (boot_o_0 P) (.node (boot_o_1 P) (.node (o3a25 P) (.node (boot_o_7 P) (.node (sh.o_7 P) (.node (sh.o_23 P) (.node (ob63 P) .nil .nil) (.node (obSub 15) .nil .nil)) (.node (sh.o_39 P) (.node (ob79 P) .nil .nil) (.node (obSub 31) .nil .nil))) (.node (sh.o_15 P) (.node (sh.o_31 P) (.node (ob71 P) .nil .nil) (.node (obSub 23) .nil .nil)) (.node (sh.o_50 P) (.node (obSub 7) .nil .nil) .nil))) (.node (sh.o_1 P) (.node (sh.o_11 P) (.node (sh.o_27 P) (.node (ob67 P) .nil .nil) (.node (obSub 19) .nil .nil)) (.node (sh.o_43 P) (.node (obSub 3) .nil .nil) (.node (obSub 35) .nil .nil))) (.node (sh.o_19 P) (.node (sh.o_35 P) (.node (ob75 P) .nil .nil) (.node (obSub 27) .nil .nil)) (.node (sh.o_54 P) (.node (obSub 11) .nil .nil) .nil)))) (.node (boot_o_5 P) (.node (boot_o_9 P) (.node (sh.o_9 P) (.node (sh.o_25 P) (.node (ob65 P) .nil .nil) (.node (obSub 17) .nil .nil)) (.node (sh.o_41 P) (.node (obSub 1) .nil .nil) (.node (obSub 33) .nil .nil))) (.node (sh.o_17 P) (.node (sh.o_33 P) (.node (ob73 P) .nil .nil) (.node (obSub 25) .nil .nil)) (.node (sh.o_52 P) (.node (obSub 9) .nil .nil) .nil))) (.node (sh.o_3 P) (.node (sh.o_13 P) (.node (sh.o_29 P) (.node (ob69 P) .nil .nil) (.node (obSub 21) .nil .nil)) (.node (sh.o_45 P) (.node (obSub 5) .nil .nil) (.node (obSub 37) .nil .nil))) (.node (sh.o_21 P) (.node (sh.o_37 P) (.node (ob77 P) .nil .nil) (.node (obSub 29) .nil .nil)) (.node (sh.o_56 P) (.node (obSub 13) .nil .nil) .nil))))) (.node (boot_o_2 P) (.node (boot_o_4 P) (.node (boot_o_8 P) (.node (sh.o_8 P) (.node (sh.o_24 P) (.node (ob64 P) .nil .nil) (.node (obSub 16) .nil .nil)) (.node (sh.o_40 P) (.node ob80 .nil .nil) (.node (obSub 32) .nil .nil))) (.node (sh.o_16 P) (.node (sh.o_32 P) (.node (ob72 P) .nil .nil) (.node (obSub 24) .nil .nil)) (.node (sh.o_51 P) (.node (obSub 8) .nil .nil) .nil))) (.node (o12a25 P) (.node (sh.o_12 P) (.node (sh.o_28 P) (.node (ob68 P) .nil .nil) (.node (obSub 20) .nil .nil)) (.node (sh.o_44 P) (.node (obSub 4) .nil .nil) (.node (obSub 36) .nil .nil))) (.node (sh.o_20 P) (.node (sh.o_36 P) (.node (ob76 P) .nil .nil) (.node (obSub 28) .nil .nil)) (.node (sh.o_55 P) (.node (obSub 12) .nil .nil) .nil)))) (.node (boot_o_6 P) (.node (boot_o_10 P) (.node (sh.o_10 P) (.node (sh.o_26 P) (.node (ob66 P) .nil .nil) (.node (obSub 18) .nil .nil)) (.node (sh.o_42 P) (.node (obSub 2) .nil .nil) (.node (obSub 34) .nil .nil))) (.node (sh.o_18 P) (.node (sh.o_34 P) (.node (ob74 P) .nil .nil) (.node (obSub 26) .nil .nil)) (.node (sh.o_53 P) (.node (obSub 10) .nil .nil) .nil))) (.node (sh.o_4 P) (.node (sh.o_14 P) (.node (sh.o_30 P) (.node (ob70 P) .nil .nil) (.node (obSub 22) .nil .nil)) (.node (sh.o_46 P) (.node (obSub 6) .nil .nil) (.node (obSub 38) .nil .nil))) (.node (sh.o_22 P) (.node (sh.o_38 P) (.node (ob78 P) .nil .nil) (.node (obSub 30) .nil .nil)) (.node (ob62 P) (.node (obSub 14) .nil .nil) .nil))))))
noncomputable def tr26 (P : Params) : BT := (.node (boot_o_0 P) (.node (boot_o_1 P) (.node (o3a26 P) (.node (boot_o_7 P) (.node (sh.o_7 P) (.node (sh.o_23 P) (.node (ob63 P) .nil .nil) (.node (obSub 15) .nil .nil)) (.node (sh.o_39 P) (.node (ob79 P) .nil .nil) (.node (obSub 31) .nil .nil))) (.node (sh.o_15 P) (.node (sh.o_31 P) (.node (ob71 P) .nil .nil) (.node (obSub 23) .nil .nil)) (.node (sh.o_50 P) (.node (obSub 7) .nil .nil) .nil))) (.node (sh.o_1 P) (.node (sh.o_11 P) (.node (sh.o_27 P) (.node (ob67 P) .nil .nil) (.node (obSub 19) .nil .nil)) (.node (sh.o_43 P) (.node (obSub 3) .nil .nil) (.node (obSub 35) .nil .nil))) (.node (sh.o_19 P) (.node (sh.o_35 P) (.node (ob75 P) .nil .nil) (.node (obSub 27) .nil .nil)) (.node (sh.o_54 P) (.node (obSub 11) .nil .nil) .nil)))) (.node (boot_o_5 P) (.node (boot_o_9 P) (.node (sh.o_9 P) (.node (sh.o_25 P) (.node (ob65 P) .nil .nil) (.node (obSub 17) .nil .nil)) (.node (sh.o_41 P) (.node (obSub 1) .nil .nil) (.node (obSub 33) .nil .nil))) (.node (sh.o_17 P) (.node (sh.o_33 P) (.node (ob73 P) .nil .nil) (.node (obSub 25) .nil .nil)) (.node (sh.o_52 P) (.node (obSub 9) .nil .nil) .nil))) (.node (sh.o_3 P) (.node (sh.o_13 P) (.node (sh.o_29 P) (.node (ob69 P) .nil .nil) (.node (obSub 21) .nil .nil)) (.node (sh.o_45 P) (.node (obSub 5) .nil .nil) (.node (obSub 37) .nil .nil))) (.node (sh.o_21 P) (.node (sh.o_37 P) (.node (ob77 P) .nil .nil) (.node (obSub 29) .nil .nil)) (.node (sh.o_56 P) (.node (obSub 13) .nil .nil) .nil))))) (.node (boot_o_2 P) (.node (boot_o_4 P) (.node (boot_o_8 P) (.node (sh.o_8 P) (.node (sh.o_24 P) (.node (ob64 P) .nil .nil) (.node (obSub 16) .nil .nil)) (.node (sh.o_40 P) (.node ob80 .nil .nil) (.node (obSub 32) .nil .nil))) (.node (sh.o_16 P) (.node (sh.o_32 P) (.node (ob72 P) .nil .nil) (.node (obSub 24) .nil .nil)) (.node (sh.o_51 P) (.node (obSub 8) .nil .nil) .nil))) (.node (o12a25 P) (.node (sh.o_12 P) (.node (sh.o_28 P) (.node (ob68 P) .nil .nil) (.node (obSub 20) .nil .nil)) (.node (sh.o_44 P) (.node (obSub 4) .nil .nil) (.node (obSub 36) .nil .nil))) (.node (sh.o_20 P) (.node (sh.o_36 P) (.node (ob76 P) .nil .nil) (.node (obSub 28) .nil .nil)) (.node (sh.o_55 P) (.node (obSub 12) .nil .nil) .nil)))) (.node (boot_o_6 P) (.node (boot_o_10 P) (.node (sh.o_10 P) (.node (sh.o_26 P) (.node (ob66 P) .nil .nil) (.node (obSub 18) .nil .nil)) (.node (sh.o_42 P) (.node (obSub 2) .nil .nil) (.node (obSub 34) .nil .nil))) (.node (sh.o_18 P) (.node (sh.o_34 P) (.node (ob74 P) .nil .nil) (.node (obSub 26) .nil .nil)) (.node (sh.o_53 P) (.node (obSub 10) .nil .nil) .nil))) (.node (sh.o_4 P) (.node (sh.o_14 P) (.node (sh.o_30 P) (.node (ob70 P) .nil .nil) (.node (obSub 22) .nil .nil)) (.node (sh.o_46 P) (.node (obSub 6) .nil .nil) (.node (obSub 38) .nil .nil))) (.node (sh.o_22 P) (.node (sh.o_38 P) (.node (ob78 P) .nil .nil) (.node (obSub 30) .nil .nil)) (.node (ob62 P) (.node (obSub 14) .nil .nil) .nil))))))
noncomputable def o3a33 (P : Params) : Obj := ⟨(.type "dict"), none, (.dict #[⟨PyData.keyHash P (Str.ofString "__name__"), (.str (Str.ofString "__name__") 165), (.str (Str.ofString "law_nq0146_01") 2300)⟩, ⟨PyData.keyHash P (Str.ofString "__doc__"), (.str (Str.ofString "__doc__") 166), .none⟩, ⟨PyData.keyHash P (Str.ofString "__package__"), (.str (Str.ofString "__package__") 167), .none⟩, ⟨PyData.keyHash P (Str.ofString "__loader__"), (.str (Str.ofString "__loader__") 168), (.builtin "__main__.__loader__#opaque")⟩, ⟨PyData.keyHash P (Str.ofString "__spec__"), (.str (Str.ofString "__spec__") 169), .none⟩, ⟨PyData.keyHash P (Str.ofString "__annotations__"), (.str (Str.ofString "__annotations__") 170), (.ref 6)⟩, ⟨PyData.keyHash P (Str.ofString "__builtins__"), (.str (Str.ofString "__builtins__") 171), (.ref 4)⟩, ⟨PyData.keyHash P (Str.ofString "__file__"), (.str (Str.ofString "__file__") 173), (.str (Str.ofString "/claim/cut.py") 172)⟩, ⟨PyData.keyHash P (Str.ofString "__cached__"), (.str (Str.ofString "__cached__") 174), .none⟩, ⟨PyData.keyHash P (Str.ofString "S_IFMT"), (.str (Str.ofString "S_IFMT") 195), (.ref 21)⟩, ⟨PyData.keyHash P (Str.ofString "S_IFDIR"), (.str (Str.ofString "S_IFDIR") 197), (.int 16384 196)⟩, ⟨PyData.keyHash P (Str.ofString "S_IFCHR"), (.str (Str.ofString "S_IFCHR") 199), (.int 8192 198)⟩, ⟨PyData.keyHash P (Str.ofString "S_IFBLK"), (.str (Str.ofString "S_IFBLK") 201), (.int 24576 200)⟩, ⟨PyData.keyHash P (Str.ofString "S_IFREG"), (.str (Str.ofString "S_IFREG") 203), (.int 32768 202)⟩, ⟨PyData.keyHash P (Str.ofString "S_IFIFO"), (.str (Str.ofString "S_IFIFO") 205), (.int 4096 204)⟩, ⟨PyData.keyHash P (Str.ofString "S_IFLNK"), (.str (Str.ofString "S_IFLNK") 207), (.int 40960 206)⟩, ⟨PyData.keyHash P (Str.ofString "S_IFSOCK"), (.str (Str.ofString "S_IFSOCK") 209), (.int 49152 208)⟩, ⟨PyData.keyHash P (Str.ofString "S_ISUID"), (.str (Str.ofString "S_ISUID") 211), (.int 2048 210)⟩, ⟨PyData.keyHash P (Str.ofString "S_ISGID"), (.str (Str.ofString "S_ISGID") 213), (.int 1024 212)⟩, ⟨PyData.keyHash P (Str.ofString "S_ISVTX"), (.str (Str.ofString "S_ISVTX") 215), (.int 512 214)⟩, ⟨PyData.keyHash P (Str.ofString "S_IRUSR"), (.str (Str.ofString "S_IRUSR") 217), (.int 256 216)⟩, ⟨PyData.keyHash P (Str.ofString "S_IWUSR"), (.str (Str.ofString "S_IWUSR") 219), (.int 128 218)⟩, ⟨PyData.keyHash P (Str.ofString "S_IXUSR"), (.str (Str.ofString "S_IXUSR") 221), (.int 64 220)⟩, ⟨PyData.keyHash P (Str.ofString "S_IRGRP"), (.str (Str.ofString "S_IRGRP") 223), (.int 32 222)⟩, ⟨PyData.keyHash P (Str.ofString "S_IWGRP"), (.str (Str.ofString "S_IWGRP") 225), (.int 16 224)⟩, ⟨PyData.keyHash P (Str.ofString "S_IXGRP"), (.str (Str.ofString "S_IXGRP") 227), (.int 8 226)⟩, ⟨PyData.keyHash P (Str.ofString "S_IROTH"), (.str (Str.ofString "S_IROTH") 229), (.int 4 228)⟩, ⟨PyData.keyHash P (Str.ofString "S_IWOTH"), (.str (Str.ofString "S_IWOTH") 231), (.int 2 230)⟩, ⟨PyData.keyHash P (Str.ofString "S_IXOTH"), (.str (Str.ofString "S_IXOTH") 233), (.int 1 232)⟩, ⟨PyData.keyHash P (Str.ofString "_filemode_table"), (.str (Str.ofString "_filemode_table") 259), (.ref 54)⟩, ⟨PyData.keyHash P (Str.ofString "filemode"), (.str (Str.ofString "filemode") 271), (.ref 61)⟩, ⟨PyData.keyHash P (Str.ofString "b1_set"), (.str (Str.ofString "b1_set") 333), (.ref 69)⟩, ⟨PyData.keyHash P (Str.ofString "in_table_b1"), (.str (Str.ofString "in_table_b1") 340), (.ref 79)⟩, ⟨PyData.keyHash P (Str.ofString "b3_exceptions"), (.str (Str.ofString "b3_exceptions") 2291), (.ref 80)⟩, ⟨PyData.keyHash P (Str.ofString "map_table_b3"), (.str (Str.ofString "map_table_b3") 2299), (.ref 125)⟩, ⟨PyData.keyHash P (Str.ofString "_law_disguised"), (.str (Str.ofString "_law_disguised") 2317), (.ref 132)⟩, ⟨PyData.keyHash P (Str.ofString "_law_prepared"), (.str (Str.ofString "_law_prepared") 2323), (.ref 137)⟩, ⟨PyData.keyHash P (Str.ofString "_law_rights"), (.str (Str.ofString "_law_rights") 2335), (.ref 144)⟩, ⟨PyData.keyHash P (Str.ofString "_law_lacking"), (.str (Str.ofString "_law_lacking") 2341), (.ref 149)⟩, ⟨PyData.keyHash P (Str.ofString "law"), (.str (Str.ofString "law") 2347), (.ref 154)⟩] 40), #[]⟩
noncomputable def o12a33 (P : Params) : Obj := ⟨.none, none, (.fields #[(.int 2 0), (.int 0 0), (.ref 20), (.int 24 0), (.int 0 0), (.ref 60), (.int 43 0), (.int 0 0), (.ref 78), (.int 46 0), (.int 0 0), (.ref 124), (.int 52 0), (.int 0 0), (.ref 131), (.int 69 0), (.int 0 0), (.ref 136), (.int 74 0), (.int 0 0), (.ref 143), (.int 91 0), (.int 0 0), (.ref 148), (.int 93 0), (.int 0 0), (.ref 153)]), #[]⟩
noncomputable def ob119 (P : Params) : Obj := ⟨(.type "tuple"), none, (.seq #[] 0), #[]⟩
noncomputable def ob120 (P : Params) : Obj := ⟨.none, none, (.fields #[]), #[]⟩
noncomputable def ob121 (P : Params) : Obj := ⟨(.type "tuple"), none, (.seq #[(.str (Str.ofString "code") 2295), (.str (Str.ofString "r") 2296)] 0), #[]⟩
noncomputable def ob122 (P : Params) : Obj := ⟨(.type "tuple"), none, (.seq #[] 0), #[]⟩
noncomputable def ob123 (P : Params) : Obj := ⟨.none, none, (.func { name := (Str.ofString "map_table_b3"), qualname := (Str.ofString "map_table_b3"), params := dP 27, body := .stmts (dB 27), scope := dS 27, globals := 0, closure := [], defaults := .none, kwdefaults := .none, doc := .none, pyModule := .none, annotations := none, code := .none, closureTuple := .none, builtins := 0 }), #[]⟩
noncomputable def ob124 (P : Params) : Obj := ⟨(.type "code"), none, (.fields #[(.str (Str.ofString "map_table_b3") 2292), (.str (Str.ofString "map_table_b3") 2293), (.str (Str.ofString "/claim/cut.py") 2294), (.int 46 0), (.int 1 0), (.int 0 0), (.int 0 0), (.int 3 0), (.ref 119), (.bool true), (.int 181 0), (.ref 120), .none, (.ref 121), (.ref 122), (.ref 123), (.int 2297 0), (.int 46 0), (.str (Str.ofString "/claim/cut.py") 2298)]), #[]⟩
noncomputable def ob125 (P : Params) : Obj := ⟨(.type "function"), none, (.func { name := (Str.ofString "map_table_b3"), qualname := (Str.ofString "map_table_b3"), params := dP 27, body := .stmts (dB 27), scope := dS 27, globals := 3, closure := [], defaults := .none, kwdefaults := .none, doc := .none, pyModule := (.str (Str.ofString "cpy313.stringprep") 272), annotations := none, code := (.ref 124), closureTuple := .none, builtins := 0 }), #[]⟩
noncomputable def ob126 (P : Params) : Obj := ⟨(.type "tuple"), none, (.seq #[] 0), #[]⟩
noncomputable def ob127 (P : Params) : Obj := ⟨.none, none, (.fields #[]), #[]⟩
noncomputable def ob128 (P : Params) : Obj := ⟨(.type "tuple"), none, (.seq #[(.str (Str.ofString "row") 2305), (.str (Str.ofString "number") 2306), (.str (Str.ofString "nothings") 2307), (.str (Str.ofString "alphabets") 2308), (.str (Str.ofString "signs") 2309), (.str (Str.ofString "k") 2310), (.str (Str.ofString "turn") 2311), (.str (Str.ofString "form") 2312), (.str (Str.ofString "gap") 2313), (.str (Str.ofString "code") 2314)] 0), #[]⟩
noncomputable def ob129 (P : Params) : Obj := ⟨(.type "tuple"), none, (.seq #[] 0), #[]⟩
noncomputable def ob130 (P : Params) : Obj := ⟨.none, none, (.func { name := (Str.ofString "_law_disguised"), qualname := (Str.ofString "_law_disguised"), params := dP 29, body := .stmts (dB 29), scope := dS 29, globals := 0, closure := [], defaults := .none, kwdefaults := .none, doc := .none, pyModule := .none, annotations := none, code := .none, closureTuple := .none, builtins := 0 }), #[]⟩
noncomputable def ob131 (P : Params) : Obj := ⟨(.type "code"), none, (.fields #[(.str (Str.ofString "_law_disguised") 2302), (.str (Str.ofString "_law_disguised") 2303), (.str (Str.ofString "/claim/cut.py") 2304), (.int 52 0), (.int 2 0), (.int 0 0), (.int 0 0), (.int 3 0), (.ref 126), (.bool true), (.int 181 0), (.ref 127), .none, (.ref 128), (.ref 129), (.ref 130), (.int 2315 0), (.int 52 0), (.str (Str.ofString "/claim/cut.py") 2316)]), #[]⟩
noncomputable def ob132 (P : Params) : Obj := ⟨(.type "function"), none, (.func { name := (Str.ofString "_law_disguised"), qualname := (Str.ofString "_law_disguised"), params := dP 29, body := .stmts (dB 29), scope := dS 29, globals := 3, closure := [], defaults := .none, kwdefaults := .none, doc := .none, pyModule := (.str (Str.ofString "law_nq0146_01") 2300), annotations := none, code := (.ref 131), closureTuple := .none, builtins := 0 }), #[]⟩
noncomputable def ob133 (P : Params) : Obj := ⟨(.type "tuple"), none, (.seq #[] 0), #[]⟩
noncomputable def ob134 (P : Params) : Obj := ⟨.none, none, (.fields #[]), #[]⟩
noncomputable def ob135 (P : Params) : Obj := ⟨.none, none, (.func { name := (Str.ofString "_law_prepared"), qualname := (Str.ofString "_law_prepared"), params := dP 30, body := .stmts (dB 30), scope := dS 30, globals := 0, closure := [], defaults := .none, kwdefaults := .none, doc := .none, pyModule := .none, annotations := none, code := .none, closureTuple := .none, builtins := 0 }), #[]⟩
noncomputable def ob136 (P : Params) : Obj := ⟨(.type "code"), none, (.fields #[(.str (Str.ofString "_law_prepared") 2318), (.str (Str.ofString "_law_prepared") 2319), (.str (Str.ofString "/claim/cut.py") 2320), (.int 69 0), (.int 1 0), (.int 0 0), (.int 0 0), (.int 3 0), (.ref 133), (.bool true), (.int 181 0), (.ref 134), .none, .none, .none, (.ref 135), (.int 2321 0), (.int 69 0), (.str (Str.ofString "/claim/cut.py") 2322)]), #[]⟩
noncomputable def ob137 (P : Params) : Obj := ⟨(.type "function"), none, (.func { name := (Str.ofString "_law_prepared"), qualname := (Str.ofString "_law_prepared"), params := dP 30, body := .stmts (dB 30), scope := dS 30, globals := 3, closure := [], defaults := .none, kwdefaults := .none, doc := .none, pyModule := (.str (Str.ofString "law_nq0146_01") 2300), annotations := none, code := (.ref 136), closureTuple := .none, builtins := 0 }), #[]⟩
noncomputable def ob138 (P : Params) : Obj := ⟨(.type "tuple"), none, (.seq #[] 0), #[]⟩
noncomputable def ob139 (P : Params) : Obj := ⟨.none, none, (.fields #[]), #[]⟩
noncomputable def ob140 (P : Params) : Obj := ⟨(.type "tuple"), none, (.seq #[(.str (Str.ofString "row") 2327), (.str (Str.ofString "told") 2328), (.str (Str.ofString "j") 2329), (.str (Str.ofString "run") 2330), (.str (Str.ofString "last") 2331), (.str (Str.ofString "signs") 2332)] 0), #[]⟩
noncomputable def ob141 (P : Params) : Obj := ⟨(.type "tuple"), none, (.seq #[] 0), #[]⟩
noncomputable def ob142 (P : Params) : Obj := ⟨.none, none, (.func { name := (Str.ofString "_law_rights"), qualname := (Str.ofString "_law_rights"), params := dP 31, body := .stmts (dB 31), scope := dS 31, globals := 0, closure := [], defaults := .none, kwdefaults := .none, doc := .none, pyModule := .none, annotations := none, code := .none, closureTuple := .none, builtins := 0 }), #[]⟩
noncomputable def ob143 (P : Params) : Obj := ⟨(.type "code"), none, (.fields #[(.str (Str.ofString "_law_rights") 2324), (.str (Str.ofString "_law_rights") 2325), (.str (Str.ofString "/claim/cut.py") 2326), (.int 74 0), (.int 1 0), (.int 0 0), (.int 0 0), (.int 3 0), (.ref 138), (.bool true), (.int 181 0), (.ref 139), .none, (.ref 140), (.ref 141), (.ref 142), (.int 2333 0), (.int 74 0), (.str (Str.ofString "/claim/cut.py") 2334)]), #[]⟩
noncomputable def ob144 (P : Params) : Obj := ⟨(.type "function"), none, (.func { name := (Str.ofString "_law_rights"), qualname := (Str.ofString "_law_rights"), params := dP 31, body := .stmts (dB 31), scope := dS 31, globals := 3, closure := [], defaults := .none, kwdefaults := .none, doc := .none, pyModule := (.str (Str.ofString "law_nq0146_01") 2300), annotations := none, code := (.ref 143), closureTuple := .none, builtins := 0 }), #[]⟩
noncomputable def ob145 (P : Params) : Obj := ⟨(.type "tuple"), none, (.seq #[] 0), #[]⟩
noncomputable def ob146 (P : Params) : Obj := ⟨.none, none, (.fields #[]), #[]⟩
noncomputable def ob147 (P : Params) : Obj := ⟨.none, none, (.func { name := (Str.ofString "_law_lacking"), qualname := (Str.ofString "_law_lacking"), params := dP 32, body := .stmts (dB 32), scope := dS 32, globals := 0, closure := [], defaults := .none, kwdefaults := .none, doc := .none, pyModule := .none, annotations := none, code := .none, closureTuple := .none, builtins := 0 }), #[]⟩
noncomputable def ob148 (P : Params) : Obj := ⟨(.type "code"), none, (.fields #[(.str (Str.ofString "_law_lacking") 2336), (.str (Str.ofString "_law_lacking") 2337), (.str (Str.ofString "/claim/cut.py") 2338), (.int 91 0), (.int 1 0), (.int 0 0), (.int 0 0), (.int 3 0), (.ref 145), (.bool true), (.int 181 0), (.ref 146), .none, .none, .none, (.ref 147), (.int 2339 0), (.int 91 0), (.str (Str.ofString "/claim/cut.py") 2340)]), #[]⟩
noncomputable def ob149 (P : Params) : Obj := ⟨(.type "function"), none, (.func { name := (Str.ofString "_law_lacking"), qualname := (Str.ofString "_law_lacking"), params := dP 32, body := .stmts (dB 32), scope := dS 32, globals := 3, closure := [], defaults := .none, kwdefaults := .none, doc := .none, pyModule := (.str (Str.ofString "law_nq0146_01") 2300), annotations := none, code := (.ref 148), closureTuple := .none, builtins := 0 }), #[]⟩
noncomputable def ob150 (P : Params) : Obj := ⟨(.type "tuple"), none, (.seq #[] 0), #[]⟩
noncomputable def ob151 (P : Params) : Obj := ⟨.none, none, (.fields #[]), #[]⟩
noncomputable def ob152 (P : Params) : Obj := ⟨.none, none, (.func { name := (Str.ofString "law"), qualname := (Str.ofString "law"), params := dP 33, body := .stmts (dB 33), scope := dS 33, globals := 0, closure := [], defaults := .none, kwdefaults := .none, doc := .none, pyModule := .none, annotations := none, code := .none, closureTuple := .none, builtins := 0 }), #[]⟩
noncomputable def ob153 (P : Params) : Obj := ⟨(.type "code"), none, (.fields #[(.str (Str.ofString "law") 2342), (.str (Str.ofString "law") 2343), (.str (Str.ofString "/claim/cut.py") 2344), (.int 93 0), (.int 1 0), (.int 0 0), (.int 0 0), (.int 3 0), (.ref 150), (.bool true), (.int 181 0), (.ref 151), .none, .none, .none, (.ref 152), (.int 2345 0), (.int 93 0), (.str (Str.ofString "/claim/cut.py") 2346)]), #[]⟩
noncomputable def ob154 (P : Params) : Obj := ⟨(.type "function"), none, (.func { name := (Str.ofString "law"), qualname := (Str.ofString "law"), params := dP 33, body := .stmts (dB 33), scope := dS 33, globals := 3, closure := [], defaults := .none, kwdefaults := .none, doc := .none, pyModule := (.str (Str.ofString "law_nq0146_01") 2300), annotations := none, code := (.ref 153), closureTuple := .none, builtins := 0 }), #[]⟩
noncomputable def tr33 (P : Params) : BT := (.node (boot_o_0 P) (.node (boot_o_1 P) (.node (o3a33 P) (.node (boot_o_7 P) (.node (sh.o_7 P) (.node (sh.o_23 P) (.node (ob63 P) (.node (ob127 P) .nil .nil) .nil) (.node (obSub 15) .nil .nil)) (.node (sh.o_39 P) (.node (ob79 P) (.node (ob143 P) .nil .nil) .nil) (.node (obSub 31) .nil .nil))) (.node (sh.o_15 P) (.node (sh.o_31 P) (.node (ob71 P) (.node (ob135 P) .nil .nil) .nil) (.node (obSub 23) .nil .nil)) (.node (sh.o_50 P) (.node (obSub 7) (.node (ob151 P) .nil .nil) .nil) (.node (ob119 P) .nil .nil)))) (.node (sh.o_1 P) (.node (sh.o_11 P) (.node (sh.o_27 P) (.node (ob67 P) (.node (ob131 P) .nil .nil) .nil) (.node (obSub 19) .nil .nil)) (.node (sh.o_43 P) (.node (obSub 3) (.node (ob147 P) .nil .nil) .nil) (.node (obSub 35) .nil .nil))) (.node (sh.o_19 P) (.node (sh.o_35 P) (.node (ob75 P) (.node (ob139 P) .nil .nil) .nil) (.node (obSub 27) .nil .nil)) (.node (sh.o_54 P) (.node (obSub 11) .nil .nil) (.node (ob123 P) .nil .nil))))) (.node (boot_o_5 P) (.node (boot_o_9 P) (.node (sh.o_9 P) (.node (sh.o_25 P) (.node (ob65 P) (.node (ob129 P) .nil .nil) .nil) (.node (obSub 17) .nil .nil)) (.node (sh.o_41 P) (.node (obSub 1) (.node (ob145 P) .nil .nil) .nil) (.node (obSub 33) .nil .nil))) (.node (sh.o_17 P) (.node (sh.o_33 P) (.node (ob73 P) (.node (ob137 P) .nil .nil) .nil) (.node (obSub 25) .nil .nil)) (.node (sh.o_52 P) (.node (obSub 9) (.node (ob153 P) .nil .nil) .nil) (.node (ob121 P) .nil .nil)))) (.node (sh.o_3 P) (.node (sh.o_13 P) (.node (sh.o_29 P) (.node (ob69 P) (.node (ob133 P) .nil .nil) .nil) (.node (obSub 21) .nil .nil)) (.node (sh.o_45 P) (.node (obSub 5) (.node (ob149 P) .nil .nil) .nil) (.node (obSub 37) .nil .nil))) (.node (sh.o_21 P) (.node (sh.o_37 P) (.node (ob77 P) (.node (ob141 P) .nil .nil) .nil) (.node (obSub 29) .nil .nil)) (.node (sh.o_56 P) (.node (obSub 13) .nil .nil) (.node (ob125 P) .nil .nil)))))) (.node (boot_o_2 P) (.node (boot_o_4 P) (.node (boot_o_8 P) (.node (sh.o_8 P) (.node (sh.o_24 P) (.node (ob64 P) (.node (ob128 P) .nil .nil) .nil) (.node (obSub 16) .nil .nil)) (.node (sh.o_40 P) (.node ob80 (.node (ob144 P) .nil .nil) .nil) (.node (obSub 32) .nil .nil))) (.node (sh.o_16 P) (.node (sh.o_32 P) (.node (ob72 P) (.node (ob136 P) .nil .nil) .nil) (.node (obSub 24) .nil .nil)) (.node (sh.o_51 P) (.node (obSub 8) (.node (ob152 P) .nil .nil) .nil) (.node (ob120 P) .nil .nil)))) (.node (o12a33 P) (.node (sh.o_12 P) (.node (sh.o_28 P) (.node (ob68 P) (.node (ob132 P) .nil .nil) .nil) (.node (obSub 20) .nil .nil)) (.node (sh.o_44 P) (.node (obSub 4) (.node (ob148 P) .nil .nil) .nil) (.node (obSub 36) .nil .nil))) (.node (sh.o_20 P) (.node (sh.o_36 P) (.node (ob76 P) (.node (ob140 P) .nil .nil) .nil) (.node (obSub 28) .nil .nil)) (.node (sh.o_55 P) (.node (obSub 12) .nil .nil) (.node (ob124 P) .nil .nil))))) (.node (boot_o_6 P) (.node (boot_o_10 P) (.node (sh.o_10 P) (.node (sh.o_26 P) (.node (ob66 P) (.node (ob130 P) .nil .nil) .nil) (.node (obSub 18) .nil .nil)) (.node (sh.o_42 P) (.node (obSub 2) (.node (ob146 P) .nil .nil) .nil) (.node (obSub 34) .nil .nil))) (.node (sh.o_18 P) (.node (sh.o_34 P) (.node (ob74 P) (.node (ob138 P) .nil .nil) .nil) (.node (obSub 26) .nil .nil)) (.node (sh.o_53 P) (.node (obSub 10) (.node (ob154 P) .nil .nil) .nil) (.node (ob122 P) .nil .nil)))) (.node (sh.o_4 P) (.node (sh.o_14 P) (.node (sh.o_30 P) (.node (ob70 P) (.node (ob134 P) .nil .nil) .nil) (.node (obSub 22) .nil .nil)) (.node (sh.o_46 P) (.node (obSub 6) (.node (ob150 P) .nil .nil) .nil) (.node (obSub 38) .nil .nil))) (.node (sh.o_22 P) (.node (sh.o_38 P) (.node (ob78 P) (.node (ob142 P) .nil .nil) .nil) (.node (obSub 30) .nil .nil)) (.node (ob62 P) (.node (obSub 14) .nil .nil) (.node (ob126 P) .nil .nil)))))))
noncomputable def fin33 (P : Params) : Heap := ⟨⟨[(boot_o_0 P), (boot_o_1 P), (boot_o_2 P), (o3a33 P), (boot_o_4 P), (boot_o_5 P), (boot_o_6 P), (boot_o_7 P), (boot_o_8 P), (boot_o_9 P), (boot_o_10 P), (sh.o_1 P), (o12a33 P), (sh.o_3 P), (sh.o_4 P), (sh.o_7 P), (sh.o_8 P), (sh.o_9 P), (sh.o_10 P), (sh.o_11 P), (sh.o_12 P), (sh.o_13 P), (sh.o_14 P), (sh.o_15 P), (sh.o_16 P), (sh.o_17 P), (sh.o_18 P), (sh.o_19 P), (sh.o_20 P), (sh.o_21 P), (sh.o_22 P), (sh.o_23 P), (sh.o_24 P), (sh.o_25 P), (sh.o_26 P), (sh.o_27 P), (sh.o_28 P), (sh.o_29 P), (sh.o_30 P), (sh.o_31 P), (sh.o_32 P), (sh.o_33 P), (sh.o_34 P), (sh.o_35 P), (sh.o_36 P), (sh.o_37 P), (sh.o_38 P), (sh.o_39 P), (sh.o_40 P), (sh.o_41 P), (sh.o_42 P), (sh.o_43 P), (sh.o_44 P), (sh.o_45 P), (sh.o_46 P), (sh.o_50 P), (sh.o_51 P), (sh.o_52 P), (sh.o_53 P), (sh.o_54 P), (sh.o_55 P), (sh.o_56 P), (ob62 P), (ob63 P), (ob64 P), (ob65 P), (ob66 P), (ob67 P), (ob68 P), (ob69 P), (ob70 P), (ob71 P), (ob72 P), (ob73 P), (ob74 P), (ob75 P), (ob76 P), (ob77 P), (ob78 P), (ob79 P), ob80, (obSub 1), (obSub 2), (obSub 3), (obSub 4), (obSub 5), (obSub 6), (obSub 7), (obSub 8), (obSub 9), (obSub 10), (obSub 11), (obSub 12), (obSub 13), (obSub 14), (obSub 15), (obSub 16), (obSub 17), (obSub 18), (obSub 19), (obSub 20), (obSub 21), (obSub 22), (obSub 23), (obSub 24), (obSub 25), (obSub 26), (obSub 27), (obSub 28), (obSub 29), (obSub 30), (obSub 31), (obSub 32), (obSub 33), (obSub 34), (obSub 35), (obSub 36), (obSub 37), (obSub 38), (ob119 P), (ob120 P), (ob121 P), (ob122 P), (ob123 P), (ob124 P), (ob125 P), (ob126 P), (ob127 P), (ob128 P), (ob129 P), (ob130 P), (ob131 P), (ob132 P), (ob133 P), (ob134 P), (ob135 P), (ob136 P), (ob137 P), (ob138 P), (ob139 P), (ob140 P), (ob141 P), (ob142 P), (ob143 P), (ob144 P), (ob145 P), (ob146 P), (ob147 P), (ob148 P), (ob149 P), (ob150 P), (ob151 P), (ob152 P), (ob153 P), (ob154 P)]⟩, {}⟩
noncomputable def kAddr : List Nat := nat_lit 2 :: nat_lit 3 :: nat_lit 6 :: nat_lit 15 :: nat_lit 17 :: nat_lit 18 :: nat_lit 20 :: nat_lit 21 :: nat_lit 22 :: nat_lit 23 :: nat_lit 24 :: nat_lit 25 :: nat_lit 26 :: nat_lit 27 :: nat_lit 28 :: nat_lit 29 :: nat_lit 30 :: nat_lit 31 :: nat_lit 32 :: nat_lit 33 :: nat_lit 34 :: nat_lit 35 :: nat_lit 36 :: nat_lit 37 :: nat_lit 38 :: nat_lit 39 :: nat_lit 40 :: nat_lit 41 :: nat_lit 42 :: nat_lit 43 :: nat_lit 44 :: nat_lit 45 :: nat_lit 46 :: nat_lit 47 :: nat_lit 48 :: nat_lit 49 :: nat_lit 50 :: nat_lit 51 :: nat_lit 52 :: nat_lit 53 :: nat_lit 54 :: nat_lit 55 :: nat_lit 57 :: nat_lit 58 :: nat_lit 60 :: nat_lit 61 :: nat_lit 69 :: nat_lit 73 :: nat_lit 75 :: nat_lit 76 :: nat_lit 78 :: nat_lit 79 :: nat_lit 80 :: nat_lit 119 :: nat_lit 121 :: nat_lit 122 :: nat_lit 124 :: nat_lit 125 :: nat_lit 126 :: nat_lit 128 :: nat_lit 129 :: nat_lit 131 :: nat_lit 132 :: nat_lit 133 :: nat_lit 136 :: nat_lit 137 :: nat_lit 138 :: nat_lit 140 :: nat_lit 141 :: nat_lit 143 :: nat_lit 144 :: nat_lit 145 :: nat_lit 148 :: nat_lit 149 :: nat_lit 150 :: nat_lit 153 :: nat_lit 154 :: []
noncomputable def kF (P : Params) : Frag := (nat_lit 2, (boot_o_2 P)) :: (nat_lit 3, (o3a33 P)) :: (nat_lit 6, (boot_o_6 P)) :: (nat_lit 15, (sh.o_7 P)) :: (nat_lit 17, (sh.o_9 P)) :: (nat_lit 18, (sh.o_10 P)) :: (nat_lit 20, (sh.o_12 P)) :: (nat_lit 21, (sh.o_13 P)) :: (nat_lit 22, (sh.o_14 P)) :: (nat_lit 23, (sh.o_15 P)) :: (nat_lit 24, (sh.o_16 P)) :: (nat_lit 25, (sh.o_17 P)) :: (nat_lit 26, (sh.o_18 P)) :: (nat_lit 27, (sh.o_19 P)) :: (nat_lit 28, (sh.o_20 P)) :: (nat_lit 29, (sh.o_21 P)) :: (nat_lit 30, (sh.o_22 P)) :: (nat_lit 31, (sh.o_23 P)) :: (nat_lit 32, (sh.o_24 P)) :: (nat_lit 33, (sh.o_25 P)) :: (nat_lit 34, (sh.o_26 P)) :: (nat_lit 35, (sh.o_27 P)) :: (nat_lit 36, (sh.o_28 P)) :: (nat_lit 37, (sh.o_29 P)) :: (nat_lit 38, (sh.o_30 P)) :: (nat_lit 39, (sh.o_31 P)) :: (nat_lit 40, (sh.o_32 P)) :: (nat_lit 41, (sh.o_33 P)) :: (nat_lit 42, (sh.o_34 P)) :: (nat_lit 43, (sh.o_35 P)) :: (nat_lit 44, (sh.o_36 P)) :: (nat_lit 45, (sh.o_37 P)) :: (nat_lit 46, (sh.o_38 P)) :: (nat_lit 47, (sh.o_39 P)) :: (nat_lit 48, (sh.o_40 P)) :: (nat_lit 49, (sh.o_41 P)) :: (nat_lit 50, (sh.o_42 P)) :: (nat_lit 51, (sh.o_43 P)) :: (nat_lit 52, (sh.o_44 P)) :: (nat_lit 53, (sh.o_45 P)) :: (nat_lit 54, (sh.o_46 P)) :: (nat_lit 55, (sh.o_50 P)) :: (nat_lit 57, (sh.o_52 P)) :: (nat_lit 58, (sh.o_53 P)) :: (nat_lit 60, (sh.o_55 P)) :: (nat_lit 61, (sh.o_56 P)) :: (nat_lit 69, (ob69 P)) :: (nat_lit 73, (ob73 P)) :: (nat_lit 75, (ob75 P)) :: (nat_lit 76, (ob76 P)) :: (nat_lit 78, (ob78 P)) :: (nat_lit 79, (ob79 P)) :: (nat_lit 80, ob80) :: (nat_lit 119, (ob119 P)) :: (nat_lit 121, (ob121 P)) :: (nat_lit 122, (ob122 P)) :: (nat_lit 124, (ob124 P)) :: (nat_lit 125, (ob125 P)) :: (nat_lit 126, (ob126 P)) :: (nat_lit 128, (ob128 P)) :: (nat_lit 129, (ob129 P)) :: (nat_lit 131, (ob131 P)) :: (nat_lit 132, (ob132 P)) :: (nat_lit 133, (ob133 P)) :: (nat_lit 136, (ob136 P)) :: (nat_lit 137, (ob137 P)) :: (nat_lit 138, (ob138 P)) :: (nat_lit 140, (ob140 P)) :: (nat_lit 141, (ob141 P)) :: (nat_lit 143, (ob143 P)) :: (nat_lit 144, (ob144 P)) :: (nat_lit 145, (ob145 P)) :: (nat_lit 148, (ob148 P)) :: (nat_lit 149, (ob149 P)) :: (nat_lit 150, (ob150 P)) :: (nat_lit 153, (ob153 P)) :: (nat_lit 154, (ob154 P)) :: []
noncomputable def stB (T : Params → BT) (n k : Nat) (w : World) (os : OsState) : SharedT := ⟨T w.params, n, {}, ⟨[]⟩, {}, k, os⟩
noncomputable def sts24 : List Stmt := (bB.drop 24).take 1
noncomputable def sts25 : List Stmt := (bB.drop 25).take 1
noncomputable def sts26 : List Stmt := (bB.drop 26).take 1
noncomputable def sts27 : List Stmt := bB.drop 27
theorem body_cut : bB = sh.sts_4 ++ (sh.sts_48 ++ (sts24 ++ (sts25 ++ (sts26 ++ (sts27 ++ []))))) := by kernel_rfl
noncomputable def pos23 : Pos := ⟨41, 0, 41, 8⟩
noncomputable def pos24 : Pos := ⟨42, 0, 42, 6⟩
noncomputable def pos25 : Pos := ⟨43, 0, 44, 30⟩
noncomputable def pos26 : Pos := ⟨45, 0, 45, 13⟩
noncomputable def pos33 : Pos := ⟨93, 0, 109, 15⟩
noncomputable abbrev SegR := Option (Flow × SharedT × Code × Pos)
noncomputable def L24b (a b : Bool) (w : World) (os : OsState) : SegR := segRunT treeTable pw ((w.withFollow "set-order" a).withFollow "special-get-raises" b) 11 annB 1 999 (stB sh.tree_56 62 274 ((w.withFollow "set-order" a).withFollow "special-get-raises" b) os) (piecesOf sts24 sh.env_1 cB pos23 tB)
noncomputable def R24b (a b : Bool) (w : World) (os : OsState) : SegR := some (.next, stB tr24 73 334 ((w.withFollow "set-order" a).withFollow "special-get-raises" b) os, cB, pos24)
noncomputable def L25 (w : World) (os : OsState) : SegR := segRunT treeTable pw w 11 annB 1 30 (stB tr24 73 334 w os) (piecesOf sts25 sh.env_1 cB pos24 tB)
noncomputable def R25 (w : World) (os : OsState) : SegR := some (.next, stB tr25 80 341 w os, cB, pos25)
noncomputable def rest26 (v : Value) : Sem Flow := assignStores sh.env_1 v none ((assignEach tg26 sh.env_1).map (·.2))
noncomputable def L26 (w : World) (os : OsState) : SegR := segRunT treeTable pw w 11 annB 1 8 (stB tr26p 119 2291 w os) ⟨(rest26 (.ref 80)).wrap (fun f => match f with | .next => doneF .next | f => doneF f) deadEnd id id, cB, pD26, tB⟩
noncomputable def R26 (w : World) (os : OsState) : SegR := some (.next, stB tr26 119 2292 w os, cB, pos26)
noncomputable def L27 (w : World) (os : OsState) : SegR := segRunT treeTable pw w 11 annB 1 190 (stB tr26 119 2292 w os) (piecesOf sts27 sh.env_1 cB pos26 tB)
noncomputable def R27 (w : World) (os : OsState) : SegR := some (.next, stB tr33 155 2348 w os, cB, pos33)
theorem L24b_self : L24b = L24b := rfl
theorem R24b_self : R24b = R24b := rfl
theorem L25_self : L25 = L25 := rfl
theorem R25_self : R25 = R25 := rfl
theorem L26_self : L26 = L26 := rfl
theorem R26_self : R26 = R26 := rfl
theorem L27_self : L27 = L27 := rfl
theorem R27_self : R27 = R27 := rfl
name_quick mineL24b for Mine.L24b by Mine.L24b_self
name_quick mineR24b for Mine.R24b by Mine.R24b_self
name_quick mineL25 for Mine.L25 by Mine.L25_self
name_quick mineR25 for Mine.R25 by Mine.R25_self
name_quick mineL26 for Mine.L26 by Mine.L26_self
name_quick mineR26 for Mine.R26 by Mine.R26_self
name_quick mineL27 for Mine.L27 by Mine.L27_self
name_quick mineR27 for Mine.R27 by Mine.R27_self
theorem q25 : PySem.W.Fast.mineL25 = PySem.W.Fast.mineR25 := by kernel_rfl
theorem q26 : PySem.W.Fast.mineL26 = PySem.W.Fast.mineR26 := by kernel_rfl
theorem q27 : PySem.W.Fast.mineL27 = PySem.W.Fast.mineR27 := by kernel_rfl
end

section
theorem q24ff : PySem.W.Fast.mineL24b false false = PySem.W.Fast.mineR24b false false := by kernel_rfl
theorem q24ft : PySem.W.Fast.mineL24b false true = PySem.W.Fast.mineR24b false true := by kernel_rfl
theorem q24tf : PySem.W.Fast.mineL24b true false = PySem.W.Fast.mineR24b true false := by kernel_rfl
theorem q24tt : PySem.W.Fast.mineL24b true true = PySem.W.Fast.mineR24b true true := by kernel_rfl
theorem q24 (a b : Bool) : L24b a b = R24b a b := by
  rw [PySem.W.Fast.mineL24b_eq, PySem.W.Fast.mineR24b_eq]
  cases a <;> cases b
  · exact q24ff
  · exact q24ft
  · exact q24tf
  · exact q24tt
section
variable (w : World) (os : OsState)
theorem p24 : segRun treeTable pw w 11 annB 1 999 (stB sh.tree_56 62 274 w os).abs (piecesOf sts24 sh.env_1 cB pos23 tB) = some (.next, (stB tr24 73 334 w os).abs, cB, pos24) := by
  have e := congrFun (congrFun (q24 (w.params.followText "set-order") (w.params.followText "special-get-raises")) w) os
  unfold L24b R24b at e
  rw [World.withFollow_self, World.withFollow_self] at e
  exact segRun_of e
theorem p25 : segRun treeTable pw w 11 annB 1 30 (stB tr24 73 334 w os).abs (piecesOf sts25 sh.env_1 cB pos24 tB) = some (.next, (stB tr25 80 341 w os).abs, cB, pos25) := by
  have e := congrFun (congrFun (PySem.W.Fast.mineL25_eq.trans (q25.trans PySem.W.Fast.mineR25_eq.symm)) w) os
  exact segRun_of e
theorem p27 : segRun treeTable pw w 11 annB 1 190 (stB tr26 119 2292 w os).abs (piecesOf sts27 sh.env_1 cB pos26 tB) = some (.next, (stB tr33 155 2348 w os).abs, cB, pos33) := by
  have e := congrFun (congrFun (PySem.W.Fast.mineL27_eq.trans (q27.trans PySem.W.Fast.mineR27_eq.symm)) w) os
  exact segRun_of e
theorem p26r : segRun treeTable pw w 11 annB 1 8 (stB tr26p 119 2291 w os).abs ⟨(rest26 (.ref 80)).wrap (fun f => match f with | .next => doneF .next | f => doneF f) deadEnd id id, cB, pD26, tB⟩ = some (.next, (stB tr26 119 2292 w os).abs, cB, pos26) := by
  have e := congrFun (congrFun (PySem.W.Fast.mineL26_eq.trans (q26.trans PySem.W.Fast.mineR26_eq.symm)) w) os
  exact segRun_of e
end
theorem goes_run {w : World} {α β : Type} {n N : Nat} {x : Sem α} {f : α → Sem β} {s s' : Shared} {q q' : Pos} {a : α} {K : β → Sem Fin} {H : Value → Sem Fin} {gd : Bool → Bool} {lv : List Value → List Value} {r : Flow × Shared × Code × Pos}
    (h : Goes w n x s q a s' q') (k : segRun treeTable pw w 11 annB 1 N s' ⟨(f a).wrap K H gd lv, cB, q', tB⟩ = some r) : segRun treeTable pw w 11 annB 1 (n + N) s ⟨(x >>= f).wrap K H gd lv, cB, q, tB⟩ = some r := by
  rw [Sem.bind_eq_wrap', Sem.wrap_wrap]
  exact seg_go (h _ _ _ _) k
theorem sts26_is : sts26 = [.Assign tg26 (.Dict ks26 vs26 pD26) ps26] := by kernel_rfl
theorem swaps26 : swapsWithSole tg26 (.Dict ks26 vs26 pD26) ps26.line sh.env_1 = pure false := by kernel_rfl
theorem swapped26 : swappedStores tg26 (.Dict ks26 vs26 pD26) sh.env_1 = pure none := by kernel_rfl
noncomputable def listB (P : Params) : List Obj := (tr25 P).list 80
theorem heap26 (P : Params) : absHeap (tr26p P) 119 {} = heapD (absHeap (tr25 P) 80 {}) mainB subsB := by
  have e : (tr26p P).list 119 = (tr25 P).list 80 ++ (dictO mainB :: subsB.map dictO) := by kernel_rfl
  unfold absHeap heapD
  rw [e]
  simp
theorem p26 (w : World) (os : OsState) : segRun treeTable pw w 11 annB 1 (1 + (0 + (12516 + (0 + 8)))) (stB tr25 80 341 w os).abs (piecesOf sts26 sh.env_1 cB pos25 tB) = some (.next, (stB tr26 119 2292 w os).abs, cB, pos26) := by
  rw [sts26_is]
  show segRun treeTable pw w 11 annB 1 _ _ ⟨(execs [_] sh.env_1).wrap doneF deadEnd id id, cB, pos25, tB⟩ = _
  rw [execs_cons_wrap]
  show segRun treeTable pw w 11 annB 1 _ _ ⟨(standAt ps26 >>= fun _ => swapsWithSole tg26 (.Dict ks26 vs26 pD26) ps26.line sh.env_1 >>= fun b => if b = true then _ else
    (eval (.Dict ks26 vs26 pD26) sh.env_1 >>= fun v => swappedStores tg26 (.Dict ks26 vs26 pD26) sh.env_1 >>= fun sw => assignStores sh.env_1 v sw ((assignEach tg26 sh.env_1).map (·.2)))).wrap _ deadEnd id id, cB, pos25, tB⟩ = _
  refine goes_run goes_standAt ?_
  rw [swaps26]
  refine goes_run goes_pure ?_
  rw [if_neg Bool.false_ne_true]
  refine goes_run (goes_dict26 ?_ rfl) ?_
  · show 11 ≤ (absHeap _ _ _).objs.size
    rw [absHeap_size]; exact (by decide : (11 : Nat) ≤ 80)
  rw [swapped26]
  refine goes_run goes_pure ?_
  have e : ({ (stB tr25 80 341 w os).abs with heap := heapD (stB tr25 80 341 w os).abs.heap mainB subsB, toks := 2291 } : Shared) = (stB tr26p 119 2291 w os).abs := by
    show Shared.mk _ _ _ _ _ = Shared.mk _ _ _ _ _
    rw [show (stB tr25 80 341 w os).abs.heap = absHeap (tr25 w.params) 80 {} from rfl, ← heap26]
    rfl
  rw [e, show (stB tr25 80 341 w os).abs.heap.objs.size = 80 from absHeap_size _ _ _]
  exact p26r w os
end

section
noncomputable def preL (w : World) (os : OsState) : Option (Shared × Thread) := topGo treeTable pw w 11 annB 12 ⟨boot_heap w.params, ⟨[]⟩, boot_drawn, boot_toks, os⟩ (topStub pw)
noncomputable def preR (w : World) (os : OsState) : Option (Shared × Thread) := some (⟨heapA w.params, ⟨[]⟩, {}, 187, os⟩, ⟨denote treeTable cB, cB, q0, tB⟩)
noncomputable def blkL (w : World) (os : OsState) : Option (Flow × Shared × Code × Pos) := segRun treeTable pw w 11 annB 1 1 ⟨heapA w.params, ⟨[]⟩, {}, 187, os⟩ (blockOf bB sh.env_1 cB q0 tB)
noncomputable def blkR (w : World) (os : OsState) : Option (Flow × Shared × Code × Pos) := some (.next, (stB sh.tree_4 15 187 w os).abs, cB, q0)
noncomputable def finL (w : World) (os : OsState) : Option Shared := topRun treeTable pw w 11 annB 2 (stB tr33 155 2348 w os).abs ⟨doneF .next, cB, pos33, tB⟩
noncomputable def finR (w : World) (os : OsState) : Option Shared := some ⟨fin33 w.params, ⟨[]⟩, {}, 2348, os⟩
noncomputable def sizL (w : World) : Bool × Nat × Option Value := ((boot_heap w.params).isNs mainGlobals && (⟨[]⟩ : Array GenState).size == 0, (boot_heap w.params).objs.size, (boot_heap w.params).nsMap mainGlobals "__annotations__")
noncomputable def sizR (w : World) : Bool × Nat × Option Value := (true, 11, annB)
theorem preL_self : preL = preL := rfl
theorem preR_self : preR = preR := rfl
theorem blkL_self : blkL = blkL := rfl
theorem blkR_self : blkR = blkR := rfl
theorem finL_self : finL = finL := rfl
theorem finR_self : finR = finR := rfl
theorem sizL_self : sizL = sizL := rfl
theorem sizR_self : sizR = sizR := rfl
name_quick minePreL for Mine.preL by Mine.preL_self
name_quick minePreR for Mine.preR by Mine.preR_self
name_quick mineBlkL for Mine.blkL by Mine.blkL_self
name_quick mineBlkR for Mine.blkR by Mine.blkR_self
name_quick mineFinL for Mine.finL by Mine.finL_self
name_quick mineFinR for Mine.finR by Mine.finR_self
name_quick mineSizL for Mine.sizL by Mine.sizL_self
theorem qpre : PySem.W.Fast.minePreL = PySem.W.Fast.minePreR := by kernel_rfl
theorem qblk : PySem.W.Fast.mineBlkL = PySem.W.Fast.mineBlkR := by kernel_rfl
theorem qfin : PySem.W.Fast.mineFinL = PySem.W.Fast.mineFinR := by kernel_rfl
theorem qsiz : PySem.W.Fast.mineSizL = Mine.sizR := by kernel_rfl
theorem ppre : preL = preR := PySem.W.Fast.minePreL_eq.trans (qpre.trans PySem.W.Fast.minePreR_eq.symm)
theorem pblk : blkL = blkR := PySem.W.Fast.mineBlkL_eq.trans (qblk.trans PySem.W.Fast.mineBlkR_eq.symm)
theorem pfin : finL = finR := PySem.W.Fast.mineFinL_eq.trans (qfin.trans PySem.W.Fast.mineFinR_eq.symm)
theorem psiz : sizL = sizR := PySem.W.Fast.mineSizL_eq.trans qsiz
theorem topB (w : World) (os : OsState) : topRun treeTable pw w 11 annB (12 + (1 + (Nat.add 371 (Nat.add 44 (999 + (30 + ((1 + (0 + (12516 + (0 + 8)))) + (190 + 2)))))))) ⟨boot_heap w.params, ⟨[]⟩, boot_drawn, boot_toks, os⟩ (topStub pw) = some ⟨fin33 w.params, ⟨[]⟩, {}, 2348, os⟩ := by
  refine go_top (congrFun (congrFun ppre w) os) ?_
  refine piece_block (congrFun (congrFun pblk w) os) ?_
  have c := sh.chain pw bB w os (sts24 ++ (sts25 ++ (sts26 ++ (sts27 ++ [])))) (999 + (30 + ((1 + (0 + (12516 + (0 + 8)))) + (190 + 2)))) ⟨fin33 w.params, ⟨[]⟩, {}, 2348, os⟩
    (piece_app (p24 w os) (piece_app (p25 w os) (piece_app (p26 w os) (piece_app (p27 w os) (congrFun (congrFun pfin w) os)))))
  rw [← body_cut] at c
  exact c
theorem open_is : opening pw = plainProg pw.main.scope.names := by kernel_rfl
theorem fence_is (s : Shared) : fenceModules? pw s = some s := by kernel_rfl
noncomputable def qs (i : Nat) : Stmt := (pw.main.body[i]?).getD (.Pass q0)
noncomputable def qB : Program := { pw with main := { pw.main with body := [qs 0, qs 1, qs 2, qs 3, qs 4, qs 5, qs 6, qs 7, qs 8, qs 9, qs 10, qs 11, qs 12, qs 13, qs 14, qs 15, qs 16, qs 17, qs 18, qs 19, qs 20, qs 22, qs 23, qs 25, qs 27, qs 28, qs 29, qs 30, qs 31, qs 32, qs 33] } }
noncomputable def looseB : List Str := [Str.ofString "_filemode_table", Str.ofString "b1_set", Str.ofString "b3_exceptions"]
noncomputable def XtB (s : Shared) : Bool := xlAt qB [] s && recOk [] s
noncomputable def sF (w : World) (os : OsState) : Shared := ⟨fin33 w.params, ⟨[]⟩, {}, 2348, os⟩
noncomputable def lk1L (w : World) (os : OsState) : Bool := staticsOk (importedModules pw.main.body) (boot_heap w.params) (fin33 w.params) && namesBound pw (fin33 w.params) && gensDone (sF w os) && laidKept (boot_heap w.params) (fin33 w.params)
noncomputable def lk1R (w : World) (os : OsState) : Bool := true
noncomputable def lk2L (w : World) (os : OsState) := openSeen qB looseB (importedModules pw.main.body) XtB true (sF w os)
noncomputable def lk2R (w : World) (os : OsState) := openGood qB looseB
noncomputable def lk3L (w : World) (os : OsState) : List (Option Obj) := kAddr.map (sF w os).heap.get?
noncomputable def lk3R (w : World) (os : OsState) : List (Option Obj) := (kF w.params).map fun p => some p.2
theorem lk1L_self : lk1L = lk1L := rfl
theorem lk2L_self : lk2L = lk2L := rfl
theorem lk3L_self : lk3L = lk3L := rfl
theorem lk2R_self : lk2R = lk2R := rfl
theorem lk3R_self : lk3R = lk3R := rfl
name_quick mineLk1L for Mine.lk1L by Mine.lk1L_self
name_quick mineLk2L for Mine.lk2L by Mine.lk2L_self
name_quick mineLk3L for Mine.lk3L by Mine.lk3L_self
name_quick mineLk2R for Mine.lk2R by Mine.lk2R_self
name_quick mineLk3R for Mine.lk3R by Mine.lk3R_self
theorem qlk1 : PySem.W.Fast.mineLk1L = Mine.lk1R := by kernel_rfl
theorem qlk3 : PySem.W.Fast.mineLk3L = PySem.W.Fast.mineLk3R := by kernel_rfl
theorem qlk2 : PySem.W.Fast.mineLk2L = PySem.W.Fast.mineLk2R := by kernel_rfl
end

section
theorem kAddr_is (P : Params) : kAddr = (kF P).map (·.1) := by kernel_rfl
theorem leftB : LeftO pw qB looseB XtB (kHook kF kAddr kAddr_is).obs (kHook kF kAddr kAddr_is).val 20000 := by
  refine LeftO.of_pieces (boot_open open_is rfl fence_is) (fun w => congrFun psiz w) topB (by decide) fun w => ?_
  funext os
  have e1 := congrFun (congrFun (PySem.W.Fast.mineLk1L_eq.trans qlk1) w) os
  have e2 := congrFun (congrFun (PySem.W.Fast.mineLk2L_eq.trans (qlk2.trans PySem.W.Fast.mineLk2R_eq.symm)) w) os
  have e3 := congrFun (congrFun (PySem.W.Fast.mineLk3L_eq.trans (qlk3.trans PySem.W.Fast.mineLk3R_eq.symm)) w) os
  exact looks_pair e1 (looks_pair e2 e3)
end

section
theorem warm (P : Params) : kF P = kF P ∧ PySem.Challenge.rw_nq0146_01.foot = 5 := by k_fill; exact ⟨rfl, rfl⟩
end

section
/-- what a def of the text does when it is called, wherever -/
noncomputable def Con (prog : Program) (w : World) (mean : ExcName → Option Value) (mg mb : Str → Option Value) (d : Nat) (f : Addr) (vs : List Value) (R : Tok → Value) : Prop :=
  ∀ (dp un : Nat) (gd : Option (List Code)) (cn : Str) (cs : Scope) (a : Addr) (ccd : Value) (cl : List (Str × Addr)) (outer : List Env) (A₀ : Around) (base h₀ : Heap) (L : Addr) (m : Str → Option Value) (s : Shared) (Q E : Value → Shared → Prop),
    Below A₀ base outer h₀ → Fr h₀ L s.heap m → (kF w.params).In h₀ → Top qB (looseW qB looseB) mean mg mb h₀ → cs.kind = .function → dp + d < recursionLimit → un + 10 * d < cLine →
    (∀ (t : Tok) (h' : Heap) (tk' : Nat), Fr h₀ L h' m → (∀ b o, s.heap.get? b = some o → h'.get? b = some o) → Q (R t) { s with heap := h', toks := tk' }) →
    wpAny (model prog w) (ktrTop dp un gd cn cs L a ccd cl outer) (call (.ref f) vs) Q E s
section
variable {prog : Program} {w : World} {A₀ A : Around} {s : Shared} {base h₀ : Heap} {outer : List Env} {L : Addr} {m mg mb : Str → Option Value} {env : Env} {K : Frag} {p : Program} {loose : List Str} {mean : ExcName → Option Value}
theorem con_use {d : Nat} {f : Addr} {vs : List Value} {R : Tok → Value} (C : Con prog w mean mg mb d f vs R) {dp un : Nat} {gd : Option (List Code)} {cn : Str} {cs : Scope} {a : Addr} {ccd : Value} {cl : List (Str × Addr)} {news : List (Addr × Obj)} {Q E : Value → Shared → Prop}
    (B : Below A₀ base outer h₀) (F : Fr h₀ L s.heap m) (X : (kF w.params).In h₀) (N : News h₀ L s.heap news) (T : Top qB (looseW qB looseB) mean mg mb h₀) (hk : cs.kind = .function) (hd : dp + d < recursionLimit) (hu : un + 10 * d < cLine)
    (hret : ∀ (t : Tok) (h' : Heap) (tk' : Nat), Fr h₀ L h' m → News h₀ L h' news → (∀ b o, s.heap.get? b = some o → h'.get? b = some o) → Q (R t) { s with heap := h', toks := tk' }) :
    wpAny (model prog w) (ktrTop dp un gd cn cs L a ccd cl outer) (call (.ref f) vs) Q E s :=
  C _ _ _ _ _ _ _ _ _ _ _ _ _ _ _ _ _ B F X T hk hd hu fun t h' tk' F' k => hret t h' tk' F' (fun p hp => ⟨k _ _ (N p hp).1, (N p hp).2⟩) k
/-- what lies stays -/
noncomputable def Kp (h g : Heap) : Prop := ∀ b o, h.get? b = some o → g.get? b = some o
/-- a def with cells, entered with an empty ledger -/
theorem enter_cells {R : Result → Shared → Prop} {name qual : Str} {params : Arguments} {body : List Stmt} {scope : Scope} {dV kV doc pm cdv ct oc : Value} {an od : Option Addr} {osl : Array (Option Value)} {f : Addr} {args : Args} {binds : List (Str × Value)}
    (B : Below A₀ base outer h₀) (F : Fr h₀ L s.heap m) (X₀ : K.In h₀) (T : Top p loose mean mg mb h₀) (hA : A.frames = some (env :: outer)) (hf : env.frame = some L) (hke : env.scope.kind = .function)
    (ho : K.lookup f = some ⟨oc, od, .func (fnOf name qual params body scope dV kV doc pm an cdv ct), osl⟩) (hcd : codeIn K cdv qual = true) (hroom : A.depth < recursionLimit)
    (hbind : BindsTo s (fnOf name qual params body scope dV kV doc pm an cdv ct) args binds) (hkind : (binds.all fun y => scope.names.lookup y.1 == some .local || scope.names.lookup y.1 == some .cell) = true)
    (hnd : ((cellsFrom 0 scope.names []).map (·.1)).Nodup)
    (h : ∀ g L' h₁ tk cells, Fr h₀ L g m → Fr g L' h₁ (bindL (envOfC qual scope L' f cdv).kindOf binds fun _ => none) → News g L' h₁ cells →
      CellsAre (bindC (envOfC qual scope L' f cdv).kindOf binds fun _ => none) (cellsFrom (L' + 1) scope.names []) cells → Below A base (env :: outer) g → K.In g → Top p loose mean mg mb g → Kp s.heap g →
      wpAny (model prog w) (A.deeper (envOfC qual scope L' f cdv)) (execs body (envOfC qual scope L' f cdv))
        (fun fl s' => LeaveK h₀ L m g R (match fl with | .ret v => v | _ => .none) s')
        (fun e s' => wpAny (model prog w) (A.deeper (envOfC qual scope L' f cdv)) («leaving» (envOfC qual scope L' f cdv) e) (fun _ s'' => R (.error e) s'') (fun e' s'' => R (.error e') s'') s')
        { s with heap := h₁, toks := tk })
    (hco : scope.isCoroutine = false) (hgen : scope.isGenerator = false) (hk : scope.kind = .function) : codeAny (model prog w) A (.call (.ref f) args) R s := by
  obtain ⟨FG, BG, st, lv⟩ := groundX (R := R) B F News.nil hA hf hke
  refine codeAny_call_function hroom ((X₀.keeps F.keep) _ _ ho) rfl hco hgen rfl (codeRec_of (X₀.keeps F.keep) hcd) (hbind _ _ _ _ ?_)
  refine wpAny_newFunctionEnv_cells hk (kindsX hkind _) fun env' he s' x => ?_
  subst he
  refine ⟨(T.nolimit.keeps F.keep).keeps x.toInCall.keep, codeAny_func ?_⟩
  obtain ⟨h₁, tk, rfl, _⟩ := x.done
  have hk₁ := x.toInCall.keep
  obtain ⟨cells, NC, Y⟩ := Cl.news (h₀ := s.heap) (Nat.le_refl _) fun n c hm => ⟨x.cell n c (lookup_of_mem_nodup (cellsFrom_names scope.names 0 (s.heap.objs.size + 1) [] [] rfl ▸ hnd) hm), x.above n c hm⟩
  refine wpAny_mono (h _ s.heap.objs.size h₁ tk cells FG ⟨x.toInCall.ns, fun b o e => hk₁ b o (of_hideAll _ e), Nat.le_of_eq (hideAll_size _ _)⟩ (fun p hp => ?_) Y BG (X₀.keeps st) (T.keeps st) (fun b o e => hideAll_get _ e (by simp))) (fun fl s' hl => lv _ _ hl) fun _ _ y => y
  refine ⟨(NC p hp).1, (NC p hp).2.1, ?_⟩
  cases q : (hideAll s.heap (([] : List (Addr × Obj)).map (·.1))).get? p.1 with
  | none => rfl
  | some o => have := of_hideAll _ q; rw [(NC p hp).2.2] at this; cases this
end
/-! the two tables -/
noncomputable def b1L : List Int := [173, 847, 6150, 6155, 6156, 6157, 8203, 8204, 8205, 8288, 65279, 65024, 65025, 65026, 65027, 65028, 65029, 65030, 65031, 65032, 65033, 65034, 65035, 65036, 65037, 65038, 65039]
noncomputable def b1S (k : Int) : Bool := b1L.contains k
noncomputable def b3F (k : Int) : Option Str := (prsB.find? fun p => p.1 == k).map (·.2)
noncomputable def goodE (e : Int × Value) : Bool := match e.2 with | .int k _ => e.1 == k && decide (0 < k) && decide (k < 200000) | _ => false
noncomputable def keyE (e : Int × Value) : Int := match e.2 with | .int k _ => k | _ => 0
section
variable {prog : Program} {w : World} {h : Heap}
theorem good_elems {l : List (Int × Value)} (hl : l.all goodE = true) : ElemsOf (intKind prog w) l := fun e he => by
  have := List.all_eq_true.mp hl e he
  obtain ⟨a, v⟩ := e
  cases v with
  | int k t =>
    simp only [goodE, Bool.and_eq_true, beq_iff_eq, decide_eq_true_eq] at this
    exact ⟨⟨k, intKind_is prog w k t, by rw [this.1.1]; exact (hashInt_small this.1.2 this.2).symm⟩, rfl⟩
  | _ => simp [goodE] at this
theorem good_mem {l : List (Int × Value)} (hl : l.all goodE = true) (k : Int) : (∃ e ∈ l, (intKind prog w).is k e.2 = true) ↔ k ∈ l.map keyE := by
  rw [List.mem_map]
  constructor
  · rintro ⟨e, he, hk⟩
    refine ⟨e, he, ?_⟩
    obtain ⟨t, ht⟩ := Value.isInt_shape hk
    unfold keyE; rw [ht]
  · rintro ⟨e, he, rfl⟩
    refine ⟨e, he, ?_⟩
    have := List.all_eq_true.mp hl e he
    obtain ⟨a, v⟩ := e
    cases v with
    | int k t => exact intKind_is prog w k t
    | _ => simp [goodE] at this
theorem k69 (X : (kF w.params).In h) : h.get? 69 = some (ob69 w.params) := X _ _ (by rfl)
theorem k80 (X : (kF w.params).In h) : h.get? 80 = some ob80 := X _ _ (by rfl)
theorem set69 (X : (kF w.params).In h) : h.SetOf (intKind prog w) 69 b1S 27 := by
  refine ⟨_, _, _, _, k69 X, ⟨rfl, rfl, rfl⟩, rfl, good_elems (by decide +kernel), fun k => ?_, by decide, by rfl, by rfl⟩
  rw [good_mem (by decide +kernel)]
  show b1L.contains k = true ↔ _
  rw [List.contains_iff_mem]
  constructor
  · intro hk; revert k; decide +kernel
  · intro hk; revert k; decide +kernel
theorem entsL_find (k : Int) : ∀ (t : Nat) (l : List (Int × Str)), ((entsL t l).find? fun e => Value.isInt k e.key) = none ∧ (l.find? fun p => p.1 == k) = none ∨
    ∃ e p u, ((entsL t l).find? fun e => Value.isInt k e.key) = some e ∧ (l.find? fun p => p.1 == k) = some p ∧ e.val = .str p.2 u
  | _, [] => .inl ⟨rfl, rfl⟩
  | t, (i, x) :: r => by
    by_cases hk : i = k
    · subst hk
      exact .inr ⟨⟨hashInt i, .int i t, .str x (t + 1)⟩, (i, x), t + 1, by simp [entsL, Value.isInt], by simp, rfl⟩
    · have e1 : ((entsL t ((i, x) :: r)).find? fun e => Value.isInt k e.key) = (entsL (t + 3) r).find? fun e => Value.isInt k e.key := by simp [entsL, Value.isInt, hk]
      have e2 : (((i, x) :: r).find? fun p => p.1 == k) = r.find? fun p => p.1 == k := by simp [hk]
      rw [e1, e2]; exact entsL_find k (t + 3) r
theorem entsS_find (k : Int) : ∀ (t : Nat) (l : List (Int × Str)), ((entsS t l).find? fun e => Value.isInt k e.key) = none ∧ (l.find? fun p => p.1 == k) = none ∨
    ∃ e p u, ((entsS t l).find? fun e => Value.isInt k e.key) = some e ∧ (l.find? fun p => p.1 == k) = some p ∧ e.val = .str p.2 u
  | _, [] => .inl ⟨rfl, rfl⟩
  | t, (i, x) :: r => by
    by_cases hk : i = k
    · subst hk
      exact .inr ⟨⟨hashInt i, .int i t, .str x (t + 1)⟩, (i, x), t + 1, by simp [entsS, Value.isInt], by simp, rfl⟩
    · have e1 : ((entsS t ((i, x) :: r)).find? fun e => Value.isInt k e.key) = (entsS (t + 2) r).find? fun e => Value.isInt k e.key := by simp [entsS, Value.isInt, hk]
      have e2 : (((i, x) :: r).find? fun p => p.1 == k) = r.find? fun p => p.1 == k := by simp [hk]
      rw [e1, e2]; exact entsS_find k (t + 2) r
theorem main_find (k : Int) : (findBy Value.isInt mainB.toArray k = none ∧ b3F k = none) ∨ ∃ x u, findBy Value.isInt mainB.toArray k = some (.str x u) ∧ b3F k = some x := by
  have e : b3F k = (((c0B ++ (chsB.flatten ++ laB)).find? fun p => p.1 == k).map (·.2)) := by rw [join26]; rfl
  rw [e]
  unfold findBy mainB
  rw [List.find?_toArray, List.find?_append, List.find?_append, List.find?_append, List.find?_append]
  rcases entsL_find k 341 c0B with ⟨a, b⟩ | ⟨e, p, u, a, b, c⟩
  · rw [a, b]
    rcases entsL_find k 392 chsB.flatten with ⟨a, b⟩ | ⟨e, p, u, a, b, c⟩
    · rw [a, b]
      rcases entsS_find k 2279 laB with ⟨a, b⟩ | ⟨e, p, u, a, b, c⟩
      · rw [a, b]; exact .inl ⟨rfl, rfl⟩
      · rw [a, b]; exact .inr ⟨p.2, u, by simp [c], by simp⟩
    · rw [a, b]; exact .inr ⟨p.2, u, by simp [c], by simp⟩
  · rw [a, b]; exact .inr ⟨p.2, u, by simp [c], by simp⟩
theorem entsL_kind : ∀ (t : Nat) (l : List (Int × Str)), ∀ e ∈ entsL t l, ∃ k, (intKind prog w).is k e.key = true ∧ e.hash = (intKind prog w).hash k
  | _, [], e, h => by simp [entsL] at h
  | t, (i, x) :: r, e, h => by
    rcases List.mem_cons.mp h with h | h
    · exact ⟨i, by rw [h]; exact intKind_is prog w i t, by rw [h]; rfl⟩
    · exact entsL_kind (t + 3) r e h
theorem entsS_kind : ∀ (t : Nat) (l : List (Int × Str)), ∀ e ∈ entsS t l, ∃ k, (intKind prog w).is k e.key = true ∧ e.hash = (intKind prog w).hash k
  | _, [], e, h => by simp [entsS] at h
  | t, (i, x) :: r, e, h => by
    rcases List.mem_cons.mp h with h | h
    · exact ⟨i, by rw [h]; exact intKind_is prog w i t, by rw [h]; rfl⟩
    · exact entsS_kind (t + 2) r e h
theorem map80 (X : (kF w.params).In h) : h.MapOf (intKind prog w) 80 (fun k => findBy Value.isInt mainB.toArray k) := by
  refine ⟨_, mainB.toArray, mainB.length, k80 X, ⟨rfl, rfl, rfl⟩, rfl, fun e he => ?_, fun k => rfl⟩
  have he' : e ∈ mainB := by simpa using he
  unfold mainB at he'
  rcases List.mem_append.mp he' with h1 | h1
  · rcases List.mem_append.mp h1 with h2 | h2
    · exact entsL_kind _ _ e h2
    · exact entsL_kind _ _ e h2
  · exact entsS_kind _ _ e h1
end
end

section
local macro_rules | `(tactic| walk_at "con enter") => `(tactic| (refine wpAny_call ?_; k_dflt (refine' code_defG (news := []) ?k1 ?k2 ?k3 ?k4 ?k5 ?kA ?kF ?kK ?k6 ?k7 ?k8 ?k9 ?kB ?_ ?c2 ?c3 ?c4 ?c5; (case kA => exact rfl); (case kF => exact rfl); (case kK => assumption); (case k1 => k_asm); (case k2 => k_asm); (case k3 => k_asm); (case k4 => exact News.nil); (case k5 => k_asm); (case k6 => k_is); (case k7 => k_is); (case k8 => ktr_room); (case k9 => exact BindsTo.of_eq rfl); (case c5 => decide); (case kB => exact locs rfl); (case c2 => exact rfl); (case c3 => exact rfl); (case c4 => exact rfl); k_whole; intro g' L' h' FG' F' N' B' X' T' GS'; (try dsimp only); (try k_fold))))
section
variable {prog : Program} {w : World} {mean : ExcName → Option Value} {mg mb : Str → Option Value}
theorem con_b1 (c : Nat) (t : Tok) : Con prog w mean mg mb 4 79 [.str ⟨#[c]⟩ t] (fun _ => .bool (b1S c)) := by
  intro dp un gd cn cs a ccd cl outer A₀ base h₀ L m s Q E B F X T hk hd hu hret
  walk_at "con enter"
  rename GSub _ _ _ => GS'
  k_steps
  refine wpAny_inSet_of (knd := intKind prog w) (k := (c : Int)) (S := b1S) (n := 27) (intKind_is prog w _ _) rfl (set69 (by k_in)) ?_
  k_steps
  exact hret 0 _ _ (by k_asm) (fun b o e => Fr.keep (by k_asm) b o (GS' b o e (by simp)))
theorem get80 {A : Around} {E : Value → Shared → Prop} {s : Shared} {pl : Sem Bool} {Q : Value × List Value → Shared → Prop} (X : (kF w.params).In s.heap) (h : Q (.builtin "dict.get", [.ref 80]) s) :
    wpAny (model prog w) A (getMethod (.ref 80) "get" pl) Q E s :=
  have hm := map80 (prog := prog) X
  getMethod_builtin hm.typeIs PySem.F.plainAttrs_dict PySem.F.slot_dict_get PySem.F.type_dict_get hm.noDict h
theorem call80 {A : Around} {E : Value → Shared → Prop} {s : Shared} {k : Int} {t : Tok} {Q : Value → Shared → Prop} (X : (kF w.params).In s.heap) (h : Q ((findBy Value.isInt mainB.toArray k).getD .none) { s with toks := s.toks + 1 }) :
    wpAny (model prog w) A (call (.builtin "dict.get") [.ref 80, .int k t]) Q E s :=
  have hm := map80 (prog := prog) X
  call_meetsIn PySem.F.slot_dict_get hm.typeIs PySem.F.entry_dict_get (PySem.F.args_dict_get_2 _ _) (meets_dict_get (intKind prog w) 80 (intKind_is prog w k t) (by decide)) ⟨_, hm, h⟩
noncomputable def b3T (c : Nat) : Str := match b3F c with | some x => x | none => Txt.lower ⟨#[c]⟩
theorem con_b3 (c : Nat) (t : Tok) : Con prog w mean mg mb 4 125 [.str ⟨#[c]⟩ t] (fun t' => .str (b3T c) t') := by
  intro dp un gd cn cs a ccd cl outer A₀ base h₀ L m s Q E B F X T hk hd hu hret
  walk_at "con enter"
  rename GSub _ _ _ => GS'
  k_steps
  refine get80 (by k_in) ?_
  k_steps
  refine call80 (by k_in) ?_
  rcases main_find (c : Int) with ⟨h1, h2⟩ | ⟨x, u, h1, h2⟩
  · rw [h1]
    dsimp only [Option.getD]
    k_steps
    refine SCL.lower (by show (1 : Nat) ≤ _; omega) fun _ => ?_
    k_steps
    have e : b3T c = Txt.lower ⟨#[c]⟩ := by unfold b3T; rw [h2]
    rw [← e]
    exact hret _ _ _ (by k_asm) (fun b o e => Fr.keep (by k_asm) b o (GS' b o e (by simp)))
  · rw [h1]
    dsimp only [Option.getD]
    k_steps
    have e : b3T c = x := by unfold b3T; rw [h2]
    rw [← e]
    exact hret _ _ _ (by k_asm) (fun b o e => Fr.keep (by k_asm) b o (GS' b o e (by simp)))
theorem con_ifmt (n : Int) (t : Tok) : Con prog w mean mg mb 4 21 [.int n t] (fun t' => .int (Builtin.bitAnd n 61440) t') := by
  intro dp un gd cn cs a ccd cl outer A₀ base h₀ L m s Q E B F X T hk hd hu hret
  walk_at "con enter"
  rename GSub _ _ _ => GS'
  k_steps
  exact hret _ _ _ (by k_asm) (fun b o e => Fr.keep (by k_asm) b o (GS' b o e (by simp)))
end
end

section
/-! a for over a tuple of pairs, with its else -/
noncomputable abbrev noE : Value → Shared → Prop := fun _ _ => False
section
variable {prog : Program} {w : World} {A : Around} {s : Shared} {env : Env}
theorem for_one {R : Flow → Shared → Prop} {target : Expr} {it : Value} {body orelse : List Stmt}
    (h : wpAny (model prog w) A (pyNext it) (fun r s₁ => match r with
      | none => wpAny (model prog w) A (execs orelse env) R noE s₁
      | some v => wpAny (model prog w) A (letOwnedTupleGo target it v) (fun _ s₁' => wpAny (model prog w) A (assign target env v) (fun _ s₂ => wpAny (model prog w) A (execs body env) (fun f s₃ => match f with
          | .next | .cont => codeAny (model prog w) A (.forLoop target it body orelse env) (fun r s' => ∃ f, r = .ok f ∧ R f s') s₃
          | .brk => R .next s₃
          | .ret v => R (.ret v) s₃) noE s₂) noE s₁') noE s₁) noE s) :
    codeAny (model prog w) A (.forLoop target it body orelse env) (fun r s' => ∃ f, r = .ok f ∧ R f s') s := by
  refine codeAny_of_tree ?_
  show wpAny _ A ((forTurn target it body orelse env).onRaise (fun x => do noteFrame x env; theTreesLotGoes x)) _ _ s
  refine wpAny_noted ?_
  simp only [forTurn]
  refine wpAny_bind (wpAny_standAt (wpAny_bind (wpAny_onRaise (wpAny_mono h (fun r s₁ h₁ => ?_) fun _ _ h' => h'.elim))))
  cases r with
  | none => exact wpAny_pure ⟨rfl, codeAny_block (wpAny_mono h₁ (fun f s' h' => ⟨f, rfl, h'⟩) fun _ _ h' => h'.elim)⟩
  | some v =>
    refine wpAny_bind (wpAny_mono h₁ (fun _ s₁' h₁' => ?_) fun _ _ h' => h'.elim)
    refine wpAny_bind (wpAny_mono h₁' (fun _ s₂ h₂ => wpAny_bind (wpAny_mono h₂ (fun f s₃ h₃ => ?_) fun _ _ h' => h'.elim)) fun _ _ h' => h'.elim)
    cases f with
    | next => exact wpAny_pure ⟨rfl, h₃⟩
    | cont => exact wpAny_pure ⟨rfl, h₃⟩
    | brk => exact wpAny_pure ⟨_, rfl, h₃⟩
    | ret v => exact wpAny_pure ⟨_, rfl, h₃⟩
theorem fr_same {h₀ h h' : Heap} {L I : Addr} {m : Str → Option Value} (F : Fr h₀ L h m) (hs : Heap.ExtBut I h h') (hL : L ≠ I) (hI : h₀.get? I = none) : Fr h₀ L h' m :=
  ⟨F.ns.at' fun o e => hs L o hL e, fun b o e => hs b o (fun q => by rw [q, hI] at e; cases e) (F.keep b o e), F.above⟩
theorem news_same {h₀ h h' : Heap} {L I : Addr} {news : List (Addr × Obj)} (N : News h₀ L h news) (hs : Heap.ExtBut I h h') (off : ∀ p ∈ news, p.1 ≠ I) : News h₀ L h' news :=
  fun p hp => ⟨hs _ _ (off p hp) (N p hp).1, (N p hp).2⟩
/-- what a turn that goes on leaves -/
noncomputable def PairsGo (h₀ : Heap) (L : Addr) (s : Shared) (I : Addr) (oI : Obj) (Rest : (Str → Option Value) → List (Addr × Obj) → Prop) (s₃ : Shared) : Prop :=
  ∃ h' tk' m' news', s₃ = { s with heap := h', toks := tk' } ∧ Fr h₀ L h' m' ∧ News h₀ L h' ((I, oI) :: news') ∧ (∀ p ∈ news', p.1 ≠ I) ∧ Rest m' news'
/-- what is still to be shown of a loop over pairs -/
noncomputable def PairsRest (prog : Program) (w : World) (A : Around) (h₀ : Heap) (env : Env) (xi xc : Str) (body orelse : List Stmt) (R : Flow → Shared → Prop) (s : Shared) (I : Addr) : List (Value × Value) → (Str → Option Value) → List (Addr × Obj) → Prop
  | [], m, news => ∀ h tk, Fr h₀ env.locals h m → News h₀ env.locals h news → wpAny (model prog w) A (execs orelse env) R noE { s with heap := h, toks := tk }
  | (a, b) :: r, m, news => ∀ oI h tk, Fr h₀ env.locals h (fun y => if y = xc then some b else if y = xi then some a else m y) → News h₀ env.locals h ((I, oI) :: news) →
      wpAny (model prog w) A (execs body env) (fun f s₃ => match f with
        | .brk => R .next s₃
        | .ret v => R (.ret v) s₃
        | _ => PairsGo h₀ env.locals s I oI (fun m' news' => PairsRest prog w A h₀ env xi xc body orelse R s I r m' news') s₃) noE { s with heap := h, toks := tk }
theorem pairs_loop {h₀ : Heap} {xi xc : Str} {p1 p2 pt : Pos} {k : Nat} {body orelse : List Stmt} {R : Flow → Shared → Prop} {I t : Addr} {items : Array Value}
    (hh : A.handled = none) (hxi : env.kindOf xi = some .local) (hxc : env.kindOf xc = some .local) (hp : (env.scope.kind == .class || (env.scope.kind == .module && env.locals != env.globals)) = false)
    (ht : h₀.IsTuple t items) (hI : h₀.get? I = none) (hIL : env.locals ≠ I) :
    ∀ (l : List (Value × Value)) (i : Nat) (m : Str → Option Value) (news : List (Addr × Obj)) (h : Heap) (tk : Nat), i + l.length = items.size → (∀ j ab, l[j]? = some ab → ∃ p, items[i + j]? = some (Value.ref p) ∧ h₀.IsTuple p #[ab.1, ab.2]) →
      h.IsTupleIter I t i → Fr h₀ env.locals h m → News h₀ env.locals h news → (∀ p ∈ news, p.1 ≠ I) → PairsRest prog w A h₀ env xi xc body orelse R s I l m news →
      codeAny (model prog w) A (.forLoop (.Tuple [.Name xi p1, .Name xc p2] k pt) (.ref I) body orelse env) (fun r s' => ∃ f, r = .ok f ∧ R f s') { s with heap := h, toks := tk }
  | [], i, m, news, h, tk, hl, _, hit, F, N, off, hR => by
    have htn : h.IsTuple t items := let ⟨o, ho, r⟩ := ht; ⟨o, F.keep _ _ ho, r⟩
    refine for_one (wpAny_pyNext_tuple_end hh hit htn (by simp only [List.length_nil] at hl; simp; omega) fun h' he => ?_)
    exact hR h' tk (fr_same F he hIL hI) (news_same N he off)
  | (a, b) :: l, i, m, news, h, tk, hl, hp', hit, F, N, off, hR => by
    simp only [List.length_cons] at hl
    have htn : h.IsTuple t items := let ⟨o, ho, r⟩ := ht; ⟨o, F.keep _ _ ho, r⟩
    obtain ⟨p, hip, hpt⟩ := hp' 0 (a, b) rfl
    rw [Nat.add_zero] at hip
    refine for_one (wpAny_pyNext_tuple_item hit htn hip fun h₁ hit₁ hs₁ => ?_)
    have F₁ := fr_same F hs₁.extBut hIL hI
    have N₁ := news_same N hs₁.extBut off
    show wpAny (model prog w) A (letOwnedTupleGo _ (.ref I) (.ref p)) _ noE _
    refine letGo_tupleiter hit₁ ?_
    have hpt₁ : h₁.IsTuple p #[a, b] := let ⟨o, ho, r⟩ := hpt; ⟨o, F₁.keep _ _ ho, r⟩
    refine wpAny_assign_Tuple hh hpt₁ rfl rfl fun h₂ he₂ => ?_
    have hI₁ : I < h₁.objs.size := by obtain ⟨o, ho, _⟩ := hit₁; exact Heap.lt_size ho
    have hL₁ : env.locals < h₁.objs.size := F₁.ns.lt
    have hnew : h₀.get? h₁.objs.size = none := by
      cases e : h₀.get? h₁.objs.size with
      | none => rfl
      | some o => exact absurd (Heap.lt_size (F₁.keep _ _ e)) (Nat.lt_irrefl _)
    have F₂ : Fr h₀ env.locals h₂ m := fr_same F₁ he₂ (Nat.ne_of_lt hL₁) hnew
    have N₂ : News h₀ env.locals h₂ news := news_same N₁ he₂ fun q hq => Nat.ne_of_lt (Heap.lt_size (N₁ q hq).1)
    have hit₂ : h₂.IsTupleIter I t (i + 1) := hit₁.extBut he₂ (Nat.ne_of_lt hI₁)
    show wpAny (model prog w) A (do holding [b] (assign (.Name xi p1) env a); assignInOrder [assign (.Name xc p2) env] [b]) _ noE _
    refine wpAny_bind (wpAny_holding (wpAny_assign_Name (wpAny_storeName_local hxi F₂.ns (fun h₃ hn₃ hs₃ => ?_) hp)))
    have F₃ := F₂.set hn₃ hs₃
    have N₃ := N₂.set hs₃
    have hit₃ : h₃.IsTupleIter I t (i + 1) := hit₂.extBut hs₃.extBut (Ne.symm hIL)
    show wpAny (model prog w) A (do holding [] (assign (.Name xc p2) env b); assignInOrder [] []) _ noE _
    refine wpAny_bind (wpAny_holding (wpAny_assign_Name (wpAny_storeName_local hxc F₃.ns (fun h₄ hn₄ hs₄ => ?_) hp)))
    have F₄ := F₃.set hn₄ hs₄
    have N₄ := N₃.set hs₄
    have hit₄ : h₄.IsTupleIter I t (i + 1) := hit₃.extBut hs₄.extBut (Ne.symm hIL)
    refine wpAny_pure ?_
    obtain ⟨oI, hoI, hcI, hdI⟩ := id hit₄
    have N₅ : News h₀ env.locals h₄ ((I, oI) :: news) := fun q hq => by
      rcases List.mem_cons.mp hq with rfl | hq
      · exact ⟨hoI, Ne.symm hIL, hI⟩
      · exact N₄ q hq
    refine wpAny_mono (hR oI h₄ _ F₄ N₅) (fun f s₃ hf => ?_) fun _ _ h' => h'
    cases f with
    | brk => exact hf
    | ret v => exact hf
    | next =>
      obtain ⟨h', tk', m', news', rfl, F', N', off', hR'⟩ := hf
      refine pairs_loop hh hxi hxc hp ht hI hIL l (i + 1) m' news' h' tk' (by omega) (fun j ab hj => ?_) ⟨oI, (N' _ List.mem_cons_self).1, hcI, hdI⟩ F' (fun q hq => N' q (List.mem_cons_of_mem _ hq)) off' hR'
      have := hp' (j + 1) ab (by simpa using hj)
      rw [show i + 1 + j = i + (j + 1) by omega]; exact this
    | cont =>
      obtain ⟨h', tk', m', news', rfl, F', N', off', hR'⟩ := hf
      refine pairs_loop hh hxi hxc hp ht hI hIL l (i + 1) m' news' h' tk' (by omega) (fun j ab hj => ?_) ⟨oI, (N' _ List.mem_cons_self).1, hcI, hdI⟩ F' (fun q hq => N' q (List.mem_cons_of_mem _ hq)) off' hR'
      have := hp' (j + 1) ab (by simpa using hj)
      rw [show i + 1 + j = i + (j + 1) by omega]; exact this
theorem for_pairs {h₀ : Heap} {xi xc xt : Str} {p1 p2 pt p3 pos : Pos} {k : Nat} {body orelse : List Stmt} {Q : Flow → Shared → Prop} {E : Value → Shared → Prop} {t : Addr} {items : Array Value} {l : List (Value × Value)} {m : Str → Option Value} {news : List (Addr × Obj)}
    (hh : A.handled = none) (hxi : env.kindOf xi = some .local) (hxc : env.kindOf xc = some .local) (hp : (env.scope.kind == .class || (env.scope.kind == .module && env.locals != env.globals)) = false)
    (he : ∀ Q' : Value → Shared → Prop, Q' (.ref t) s → wpAny (model prog w) A (eval (.Name xt p3) env) Q' E s)
    (ht : h₀.IsTuple t items) (F : Fr h₀ env.locals s.heap m) (N : News h₀ env.locals s.heap news) (hl : l.length = items.size) (hi : ∀ (j : Nat) (ab : Value × Value), l[j]? = some ab → ∃ p, items[j]? = some (Value.ref p) ∧ h₀.IsTuple p #[ab.1, ab.2])
    (hR : ∀ I, (∀ p ∈ news, p.1 < I) → PairsRest prog w A h₀ env xi xc body orelse Q s I l m news) :
    wpAny (model prog w) A (exec (.For (.Tuple [.Name xi p1, .Name xc p2] k pt) (.Name xt p3) body orelse pos) env) Q E s := by
  refine wpAny_For (he _ ?_)
  have htn : s.heap.IsTuple t items := let ⟨o, ho, r⟩ := ht; ⟨o, F.keep _ _ ho, r⟩
  refine wpAny_pyIter_tuple htn ?_
  have hIL : env.locals ≠ s.heap.objs.size := Nat.ne_of_lt F.ns.lt
  have hnew : h₀.get? s.heap.objs.size = none := by
    cases e : h₀.get? s.heap.objs.size with
    | none => rfl
    | some o => exact absurd (Heap.lt_size (F.keep _ _ e)) (Nat.lt_irrefl _)
  refine codeAny_mono (pairs_loop (s := s) hh hxi hxc hp ht hnew hIL l 0 m news (s.heap.push { cls := .type "tuple_iterator", data := .fields #[.ref t, .int 0 0] }) s.toks (by omega) (fun j ab hj => by rw [Nat.zero_add]; exact hi j ab hj)
    ⟨_, Heap.get?_push_size _ rfl, rfl, rfl⟩ (F.push _) (fun p hp => ⟨Heap.get?_push_of_some _ (N p hp).1, (N p hp).2⟩) (fun p hp => Nat.ne_of_lt (Heap.lt_size (N p hp).1)) (hR _ fun p hp => Heap.lt_size (N p hp).1)) fun r s' hr => ?_
  obtain ⟨f, rfl, hf⟩ := hr
  exact hf
end
end

section
/-! enumerate over a tuple -/
section
variable {prog : Program} {w : World} {A : Around} {E : Value → Shared → Prop} {s : Shared}
theorem next_tuple_item {it t : Addr} {i : Nat} {items : Array Value} {x : Value} {Q : Value → Shared → Prop} (hit : s.heap.IsTupleIter it t i) (ht : s.heap.IsTuple t items) (hx : items[i]? = some x)
    (hQ : ∀ h', h'.IsTupleIter it t (i + 1) → Heap.SameBut it s.heap h' → Q x { s with heap := h' }) :
    wpAny (model prog w) A (Builtin.SmallTypes.nextOf (.ref it)) Q E s := by
  obtain ⟨o, ho, hc, hd⟩ := id hit
  obtain ⟨ol, hol, _, nl, hdl⟩ := ht
  unfold Builtin.SmallTypes.nextOf
  refine wpAny_bind (wpAny_callSpecial?_slot (name := Str.ofString "__next__") hit.typeIs F.slot_tuple_iterator_next
    (wpAny_call_entry F.slot_tuple_iterator_next hit.typeIs F.entry_tuple_iterator_next ?_ (F.args_tuple_iterator_next_1 _)))
  show wpAny _ _ (field (.ref it) 0 >>= _) _ _ s
  refine wpAny_bind (wpAny_field ho hd (x := .ref t) rfl ?_)
  show wpAny _ _ (if (Value.ref t == Value.none) = true then _ else _) _ _ s
  rw [if_neg (show ¬ ((Value.ref t == Value.none) = true) from Bool.false_ne_true)]
  show wpAny _ _ (field (.ref it) 1 >>= _) _ _ s
  refine wpAny_bind (wpAny_field ho hd (x := .int i 0) rfl ?_)
  show wpAny _ _ (seqItems? (.ref t) >>= _) _ _ s
  refine wpAny_bind (wpAny_seqItems hol hdl ?_)
  simp only [Int.toNat_natCast, hx]
  refine wpAny_bind (wpAny_setField ho hd (by simp) (wpAny_pure ⟨x, rfl, wpAny_pure (hQ _ ?_ (Heap.SameBut.update ..))⟩))
  exact ⟨_, Heap.get?_update_self _ ho (Obj.isFreed_of_fields (Obj.data_mapFields hd _)), (Obj.cls_mapFields ..).trans hc, by
    rw [Obj.data_mapFields hd]; simp [rawInt]⟩
theorem next_tuple_end {it t : Addr} {i : Nat} {items : Array Value} {Q : Value → Shared → Prop} (hh : A.handled = none) (hit : s.heap.IsTupleIter it t i) (ht : s.heap.IsTuple t items) (hx : items[i]? = none)
    (hE : ∀ h' e, Heap.ExtBut it s.heap h' → (∃ o, h'.get? e = some o ∧ o.cls = .type "StopIteration") → E (.ref e) { s with heap := h' }) :
    wpAny (model prog w) A (Builtin.SmallTypes.nextOf (.ref it)) Q E s := by
  obtain ⟨o, ho, hc, hd⟩ := id hit
  obtain ⟨ol, hol, _, nl, hdl⟩ := ht
  unfold Builtin.SmallTypes.nextOf
  refine wpAny_bind (wpAny_callSpecial?_slot (name := Str.ofString "__next__") hit.typeIs F.slot_tuple_iterator_next
    (wpAny_call_entry F.slot_tuple_iterator_next hit.typeIs F.entry_tuple_iterator_next ?_ (F.args_tuple_iterator_next_1 _)))
  show wpAny _ _ (field (.ref it) 0 >>= _) _ _ s
  refine wpAny_bind (wpAny_field ho hd (x := .ref t) rfl ?_)
  show wpAny _ _ (if (Value.ref t == Value.none) = true then _ else _) _ _ s
  rw [if_neg (show ¬ ((Value.ref t == Value.none) = true) from Bool.false_ne_true)]
  show wpAny _ _ (field (.ref it) 1 >>= _) _ _ s
  refine wpAny_bind (wpAny_field ho hd (x := .int i 0) rfl ?_)
  show wpAny _ _ (seqItems? (.ref t) >>= _) _ _ s
  refine wpAny_bind (wpAny_seqItems hol hdl ?_)
  simp only [Int.toNat_natCast, hx]
  refine wpAny_bind (wpAny_rule (wpAny_bind (wpAny_setField ho hd (by simp) ?_)))
  show wpAny _ _ (newExc (.type "StopIteration") [] >>= _) _ _ _
  refine wpAny_bind ?_
  simp only [newExc, newTuple]
  refine wpAny_bind (wpAny_newObj_type ?_ (by size_fits))
  refine wpAny_bind (m := firstArgMember _ _) (wpAny_of_eq (a := Value.none) (by first | rfl | (simp only [firstArgMember]; rfl)) ?_)
  refine wpAny_newObj_type ?_ (by size_fits)
  simp only [raiseNew]
  refine wpAny_bind (wpAny_handled ?_)
  first | rw [show A.in1.handled = none from hh] | rw [hh]
  refine wpAny_bind (wpAny_pure (wpAny_throw ?_))
  exact hE _ _ (((Heap.SameBut.update ..).extBut.push _).push _) ⟨_, Heap.get?_push_size _ rfl, rfl⟩
theorem draws_tuple (hh : A.handled = none) (it t : Addr) (hne : t ≠ it) (items : Array Value) :
    Draws prog w A it [it, t] items.size (fun i v => items[i]? = some v) (fun i h => h.IsTupleIter it t i ∧ h.IsTuple t items) where
  live := fun _ _ st => let ⟨o, ho, _⟩ := st.1; ⟨o, ho⟩
  frame := fun _ _ _ st hk => ⟨st.1.at fun o e => hk it (by simp) o e, let ⟨o, ho, r⟩ := st.2; ⟨o, hk t (by simp) o ho, r⟩⟩
  item := fun i s Q E hi st hQ => by
    refine next_tuple_item st.1 st.2 (x := items[i]) (by simp [hi]) fun h' hit' hs' => ?_
    exact hQ _ h' s.toks (by simp [hi]) ⟨hit', st.2.extBut hs'.extBut hne⟩ hs'
  done := fun s Q E st hE => next_tuple_end hh st.1 st.2 (by simp) hE
theorem meets_enum_tuple (l : Addr) (items : Array Value) (n : Nat) (dct : Option Addr) (sl : Array (Option Value)) :
    Meets (Builtin.«enumerate.__new__» ⟨[.type "enumerate", .ref l], []⟩) (fun _ R s => s.heap.get? l = some { cls := .type "tuple", dict := dct, data := .seq items n, slots := sl } ∧
      R (.ok (.ret (.ref (s.heap.push { cls := .type "tuple_iterator", data := .fields #[.ref l, .int 0 0] }).objs.size)))
        { s with heap := (s.heap.push { cls := .type "tuple_iterator", data := .fields #[.ref l, .int 0 0] }).push { cls := .type "enumerate", data := .fields #[.none, .bool false, .ref s.heap.objs.size, rawInt 0, .none, .none] } }) :=
  .of_wp fun prog w A R s h => by
    obtain ⟨hp, g, d, tk, os⟩ := s; obtain ⟨hl, h⟩ := h
    have hsub := sub_enumerate
    have hL : Heap.IsTuple (Shared.heap ⟨hp, g, d, tk, os⟩) l items := ⟨_, hl, rfl, n, rfl⟩
    wp_walk using AutoSeq1.wpAny_loadPart' hl
    refine wpAny_stack_any fun st => wpAny_pure ?_
    split
    · rename_i c _ _ _ _ _
      cases (c == Value.type "enumerate")
      · wp_walk using AutoSeq1.wpAny_loadPart' hl, wpAny_pyIter_tuple hL
        exact ⟨_, rfl, h⟩
      · wp_walk using AutoSeq1.wpAny_loadPart' hl, wpAny_pyIter_tuple hL
        exact ⟨_, rfl, h⟩
    · wp_walk using AutoSeq1.wpAny_loadPart' hl, wpAny_pyIter_tuple hL
      exact ⟨_, rfl, h⟩
theorem call_enum_tuple0 {l : Addr} {items : Array Value} {Q : Value → Shared → Prop} (hL : s.heap.IsTuple l items)
    (h : ∀ h', IsEnum h' (s.heap.objs.size + 1) s.heap.objs.size 0 .none → h'.IsTupleIter s.heap.objs.size l 0 → h'.objs.size = s.heap.objs.size + 2 →
      (∀ b o, s.heap.get? b = some o → h'.get? b = some o) → Q (.ref (s.heap.objs.size + 1)) { s with heap := h' }) :
    wpAny (model prog w) A (call (.type "enumerate") [.ref l]) Q E s := by
  obtain ⟨⟨c, dct, dt, sl⟩, hl, hc, n, hd⟩ := hL
  replace hc : c = .type "tuple" := hc
  replace hd : dt = .seq items n := hd
  subst hc hd
  refine callType_new F.called_enumerate (by decide) (F.typeCall_enumerate_1 _) (F.newCall_enumerate_1 _) (fun obj => F.args_object_init_2 obj _) F.entry_enumerate_new
    (meets_enum_tuple l items n dct sl) ⟨hl, ?_⟩
  have hz : (s.heap.push { cls := .type "tuple_iterator", data := .fields #[.ref l, .int 0 0] }).objs.size = s.heap.objs.size + 1 := Heap.size_push ..
  show _ ∧ _
  rw [hz]
  have he : IsEnum ((s.heap.push { cls := .type "tuple_iterator", data := .fields #[.ref l, .int 0 0] }).push
      { cls := .type "enumerate", data := .fields #[.none, .bool false, .ref s.heap.objs.size, rawInt 0, .none, .none] }) (s.heap.objs.size + 1) s.heap.objs.size 0 .none := by
    have := Heap.get?_push_size (s.heap.push { cls := .type "tuple_iterator", data := .fields #[.ref l, .int 0 0] })
      (o := { cls := .type "enumerate", data := .fields #[.none, .bool false, .ref s.heap.objs.size, rawInt 0, .none, .none] }) rfl
    rw [hz] at this; exact this
  refine ⟨⟨_, he, rfl⟩, h _ he ⟨_, Heap.get?_push_of_some _ (Heap.get?_push_size _ rfl), rfl, rfl⟩ (by rw [Heap.size_push, hz]) fun b o x => Heap.get?_push_of_some _ (Heap.get?_push_of_some _ x)⟩
end
noncomputable def valK : ItemKind Value := ⟨fun a v => v = a, some, fun _ _ h => by rw [h]⟩
section
variable {prog : Program} {w : World} {A : Around} {E : Value → Shared → Prop} {s : Shared} {h₀ : Heap} {L : Addr} {m : Str → Option Value} {news : List (Addr × Obj)}
theorem call_enum_tuple {l : Addr} {items : Array Value} {Q : Value → Shared → Prop} (hh : A.handled = none) (hl : h₀.IsTuple l items) (F : Fr h₀ L s.heap m) (N : News h₀ L s.heap news)
    (h : ∀ h' e, Fr h₀ L h' m → News h₀ L h' news → PairSrcL prog w A E h₀ L valK items.toList (.ref e) { s with heap := h' } m news → Q (.ref e) { s with heap := h' }) :
    wpAny (model prog w) A (call (.type "enumerate") [.ref l]) Q E s := by
  have hls : s.heap.IsTuple l items := let ⟨o, ho, r⟩ := hl; ⟨o, F.keep _ _ ho, r⟩
  obtain ⟨ol, hol, _⟩ := id hl
  have hlt : l < h₀.objs.size := Heap.lt_size hol
  have hLs : L < s.heap.objs.size := F.ns.lt
  have hab : h₀.objs.size ≤ L := F.above
  refine call_enum_tuple0 hls fun h' he hit hsz hk => ?_
  have F' : Fr h₀ L h' m := ⟨F.ns.keeps hk, fun b o e => hk b o (F.keep b o e), F.above⟩
  have N' : News h₀ L h' news := fun p hp => ⟨hk _ _ (N p hp).1, (N p hp).2⟩
  refine h h' _ F' N' fun env hL => ?_
  subst hL
  have hl2 : l < s.heap.objs.size := Nat.lt_trans (Nat.lt_of_lt_of_le hlt hab) hLs
  refine enumSrc (draws_tuple (A := A.in1) hh s.heap.objs.size l (Nat.ne_of_lt hl2) items) he ⟨hit, let ⟨o, ho, r⟩ := hls; ⟨o, hk _ _ ho, r⟩⟩ (Nat.succ_ne_self _) ?_ (by simp) ?_
    (Heap.get?_none_of_le (Nat.le_trans hab (Nat.le_of_lt (Nat.lt_succ_of_lt hLs)))) (Heap.get?_none_of_le (Nat.le_trans hab (Nat.le_of_lt hLs))) ?_ (by simp) (fun i x hx => ⟨x, by simpa using hx, rfl⟩) F' N'
  · intro hm
    rcases List.mem_cons.mp hm with e | hm
    · exact Nat.succ_ne_self _ e
    · exact Nat.ne_of_gt (Nat.lt_succ_of_lt hl2) (List.mem_singleton.mp hm)
  · intro hm
    rcases List.mem_cons.mp hm with e | hm
    · exact Nat.ne_of_lt (Nat.lt_succ_of_lt hLs) e
    · rcases List.mem_cons.mp hm with e | hm
      · exact Nat.ne_of_lt hLs e
      · exact Nat.ne_of_gt (Nat.lt_of_lt_of_le hlt hab) (List.mem_singleton.mp hm)
  · intro b hb q hq e
    have hq1 : q.1 < s.heap.objs.size := Heap.lt_size (N q hq).1
    rcases List.mem_cons.mp hb with e1 | hb
    · exact Nat.ne_of_gt (Nat.lt_succ_of_lt hq1) (e1.symm.trans e)
    · rcases List.mem_cons.mp hb with e1 | hb
      · exact Nat.ne_of_gt hq1 (e1.symm.trans e)
      · have e2 := List.mem_singleton.mp hb
        have hn := (N q hq).2.2
        rw [← e, e2, hol] at hn
        cases hn
end
end

section
/-! filemode -/
theorem map2 {m : Str → Option Value} {a b : Str} {x y : Option Value} (h1 : m a = x) (h2 : m b = y) : m = fun q => if q = a then x else if q = b then y else m q := by
  funext q
  by_cases e1 : q = a
  · rw [if_pos e1, e1, h1]
  · rw [if_neg e1]
    by_cases e2 : q = b
    · rw [if_pos e2, e2, h2]
    · rw [if_neg e2]
theorem map3 {m : Str → Option Value} {a b c : Str} {x y z : Option Value} (h1 : m a = x) (h2 : m b = y) (h3 : m c = z) : m = fun q => if q = a then x else if q = b then y else if q = c then z else m q := by
  funext q
  by_cases e1 : q = a
  · rw [if_pos e1, e1, h1]
  · rw [if_neg e1]
    by_cases e2 : q = b
    · rw [if_pos e2, e2, h2]
    · rw [if_neg e2]
      by_cases e3 : q = c
      · rw [if_pos e3, e3, h3]
      · rw [if_neg e3]
noncomputable abbrev lstO (vs : List Value) (k : Nat) : Obj := { cls := .type "list", data := .seq vs.toArray k }
/-- the tables: the address, and the pairs as they lie -/
noncomputable abbrev Row := Int × Tok × Nat × Tok
noncomputable def tabA : List Addr := [29, 31, 33, 37, 39, 41, 45, 47, 49, 53]
noncomputable def tabP : List (List Row) := [
  [(40960, 206, 108, 234), (49152, 208, 115, 235), (32768, 202, 45, 236), (24576, 200, 98, 237), (16384, 196, 100, 238), (8192, 198, 99, 239), (4096, 204, 112, 240)],
  [(256, 216, 114, 241)], [(128, 218, 119, 242)], [(2112, 243, 115, 244), (2048, 210, 83, 245), (64, 220, 120, 246)],
  [(32, 222, 114, 247)], [(16, 224, 119, 248)], [(1032, 249, 115, 250), (1024, 212, 83, 251), (8, 226, 120, 252)],
  [(4, 228, 114, 253)], [(2, 230, 119, 254)], [(513, 255, 116, 256), (512, 214, 84, 257), (1, 232, 120, 258)]]
noncomputable def pv (r : Row) : Value × Value := (.int r.1 r.2.1, .str ⟨#[r.2.2.1]⟩ r.2.2.2)
section
variable {prog : Program} {w : World} {mean : ExcName → Option Value} {mg mb : Str → Option Value}
theorem tab_all {h : Heap} (X : (kF w.params).In h) : h.IsTuple 54 (tabA.map Value.ref).toArray := ⟨_, X _ _ (by rfl), rfl, 0, by rfl⟩
theorem pair_at {h : Heap} (X : (kF w.params).In h) {a : Addr} {r : Row} (e : (kF w.params).lookup a = some { cls := .type "tuple", data := .seq #[(pv r).1, (pv r).2] 0 }) : h.IsTuple a #[(pv r).1, (pv r).2] :=
  ⟨_, X _ _ e, rfl, 0, rfl⟩
theorem tab_row {h : Heap} (X : (kF w.params).In h) {i : Nat} {a : Addr} {l : List Row} (ha : tabA[i]? = some a) (hl : tabP[i]? = some l) :
    ∃ items, h.IsTuple a items ∧ (l.map pv).length = items.size ∧ ∀ (j : Nat) (ab : Value × Value), (l.map pv)[j]? = some ab → ∃ p, items[j]? = some (Value.ref p) ∧ h.IsTuple p #[ab.1, ab.2] := by
  match i, ha, hl with
  | 0, rfl, rfl =>
    refine ⟨#[.ref 22, .ref 23, .ref 24, .ref 25, .ref 26, .ref 27, .ref 28], ⟨_, X _ _ (by rfl), rfl, 0, by rfl⟩, rfl, fun j ab hj => ?_⟩
    match j, hj with
    | 0, rfl => exact ⟨_, rfl, pair_at X (by rfl)⟩
    | 1, rfl => exact ⟨_, rfl, pair_at X (by rfl)⟩
    | 2, rfl => exact ⟨_, rfl, pair_at X (by rfl)⟩
    | 3, rfl => exact ⟨_, rfl, pair_at X (by rfl)⟩
    | 4, rfl => exact ⟨_, rfl, pair_at X (by rfl)⟩
    | 5, rfl => exact ⟨_, rfl, pair_at X (by rfl)⟩
    | 6, rfl => exact ⟨_, rfl, pair_at X (by rfl)⟩
  | 1, rfl, rfl => exact ⟨#[.ref 30], ⟨_, X _ _ (by rfl), rfl, 0, by rfl⟩, rfl, fun j ab hj => match j, hj with | 0, rfl => ⟨_, rfl, pair_at X (by rfl)⟩⟩
  | 2, rfl, rfl => exact ⟨#[.ref 32], ⟨_, X _ _ (by rfl), rfl, 0, by rfl⟩, rfl, fun j ab hj => match j, hj with | 0, rfl => ⟨_, rfl, pair_at X (by rfl)⟩⟩
  | 3, rfl, rfl => exact ⟨#[.ref 34, .ref 35, .ref 36], ⟨_, X _ _ (by rfl), rfl, 0, by rfl⟩, rfl, fun j ab hj => match j, hj with | 0, rfl => ⟨_, rfl, pair_at X (by rfl)⟩ | 1, rfl => ⟨_, rfl, pair_at X (by rfl)⟩ | 2, rfl => ⟨_, rfl, pair_at X (by rfl)⟩⟩
  | 4, rfl, rfl => exact ⟨#[.ref 38], ⟨_, X _ _ (by rfl), rfl, 0, by rfl⟩, rfl, fun j ab hj => match j, hj with | 0, rfl => ⟨_, rfl, pair_at X (by rfl)⟩⟩
  | 5, rfl, rfl => exact ⟨#[.ref 40], ⟨_, X _ _ (by rfl), rfl, 0, by rfl⟩, rfl, fun j ab hj => match j, hj with | 0, rfl => ⟨_, rfl, pair_at X (by rfl)⟩⟩
  | 6, rfl, rfl => exact ⟨#[.ref 42, .ref 43, .ref 44], ⟨_, X _ _ (by rfl), rfl, 0, by rfl⟩, rfl, fun j ab hj => match j, hj with | 0, rfl => ⟨_, rfl, pair_at X (by rfl)⟩ | 1, rfl => ⟨_, rfl, pair_at X (by rfl)⟩ | 2, rfl => ⟨_, rfl, pair_at X (by rfl)⟩⟩
  | 7, rfl, rfl => exact ⟨#[.ref 46], ⟨_, X _ _ (by rfl), rfl, 0, by rfl⟩, rfl, fun j ab hj => match j, hj with | 0, rfl => ⟨_, rfl, pair_at X (by rfl)⟩⟩
  | 8, rfl, rfl => exact ⟨#[.ref 48], ⟨_, X _ _ (by rfl), rfl, 0, by rfl⟩, rfl, fun j ab hj => match j, hj with | 0, rfl => ⟨_, rfl, pair_at X (by rfl)⟩⟩
  | 9, rfl, rfl => exact ⟨#[.ref 50, .ref 51, .ref 52], ⟨_, X _ _ (by rfl), rfl, 0, by rfl⟩, rfl, fun j ab hj => match j, hj with | 0, rfl => ⟨_, rfl, pair_at X (by rfl)⟩ | 1, rfl => ⟨_, rfl, pair_at X (by rfl)⟩ | 2, rfl => ⟨_, rfl, pair_at X (by rfl)⟩⟩
end
noncomputable def pickC (n : Int) (zero : Bool) (d : Nat) : List Row → Nat
  | [] => d
  | r :: l => if (if zero then decide (Builtin.bitAnd n 61440 = r.1) else decide (Builtin.bitAnd n r.1 = r.1)) then r.2.2.1 else pickC n zero d l
noncomputable def fmC (n : Int) (i : Nat) : Nat := match i with | 0 => pickC n true 63 (tabP.getD 0 []) | i + 1 => pickC n false 45 (tabP.getD (i + 1) [])
noncomputable def fmL (n : Int) : List Nat := (List.range 10).map (fmC n)
noncomputable def one (c : Nat) : Str := ⟨#[c]⟩
theorem ofString_nil : Str.ofString "" = ⟨#[]⟩ := by decide +kernel
theorem foldl_cps (l : List Str) : ∀ acc : Array Nat, l.foldl (fun acc p => acc ++ (#[] : Array Nat) ++ p.cps) acc = acc ++ (l.flatMap (·.cps.toList)).toArray := by
  induction l with
  | nil => intro acc; simp
  | cons a l ih =>
    intro acc; rw [List.foldl_cons, ih]
    apply Array.ext'
    simp
theorem join_nil (ys : List Str) : Txt.join ⟨#[]⟩ ys = ⟨(ys.flatMap (·.cps.toList)).toArray⟩ := by
  cases ys with
  | nil => rfl
  | cons a l =>
    show (⟨List.foldl (fun acc p => acc ++ (#[] : Array Nat) ++ p.cps) a.cps l⟩ : Str) = _
    rw [foldl_cps]
    congr 1
    apply Array.ext'
    simp
theorem flat_one (l : List Nat) : (l.map one).flatMap (·.cps.toList) = l := by
  induction l with
  | nil => rfl
  | cons a l ih => rw [List.map_cons, List.flatMap_cons, ih]; rfl
theorem fmL_len (n : Int) : (fmL n).length = 10 := by simp [fmL]
theorem fmL_take {n : Int} {i : Nat} (hi : i < 10) : ((fmL n).take (i + 1)).map one = ((fmL n).take i).map one ++ [one (fmC n i)] := by
  rw [List.take_add_one, List.map_append]
  congr 1
  simp [fmL, hi]
noncomputable def FmJ (n : Int) (t : Tok) (P : Addr) (i : Nat) (m₁ : Str → Option Value) (news₁ : List (Addr × Obj)) : Prop :=
  m₁ (Str.ofString "mode") = some (.int n t) ∧ m₁ (Str.ofString "perm") = some (.ref P) ∧ ∃ vs k, StrsAre (Array.toList vs) (((fmL n).take i).map one) ∧ news₁ = [(P, listOf vs k)]
theorem news_re {h₀ h : Heap} {L : Addr} {l l' : List (Addr × Obj)} (N : News h₀ L h l) (hs : ∀ p ∈ l', p ∈ l) : News h₀ L h l' := fun p hp => N p (hs p hp)
theorem fm_end {n : Int} {t : Tok} {P L : Addr} {i k : Nat} {h₀ h' : Heap} {m₂ : Str → Option Value} {vs : Array Value} {x : Str} {tt : Tok} {own own2 : List (Addr × Obj)} {s₁ : Shared} {tk : Nat} {Qr : Value → Shared → Prop} {Qb : Shared → Prop}
    (F : Fr h₀ L h' m₂) (N : News h₀ L h' ((P, listOf (vs.push (.str x tt)) (k + 1)) :: own2)) (hsub : ∀ p ∈ own, p ∈ own2) (hvs : StrsAre vs.toList (((fmL n).take i).map one)) (hi : i < 10) (hx : x = one (fmC n i))
    (hm : m₂ (Str.ofString "mode") = some (.int n t)) (hp : m₂ (Str.ofString "perm") = some (.ref P)) :
    LoopStep3 h₀ L own [(P, listOf vs k)] (FmJ n t P (i + 1)) s₁ Qr Qb .next { s₁ with heap := h', toks := tk } := by
  refine ⟨rfl, h', tk, m₂, [(P, listOf (vs.push (.str x tt)) (k + 1))], rfl, F, news_re N ?_, rfl, hm, hp, _, _, ?_, rfl⟩
  · intro p hp
    rcases List.mem_append.mp hp with h | h
    · exact List.mem_cons_of_mem _ (hsub p h)
    · rw [List.mem_singleton.mp h]; exact List.mem_cons_self ..
  · rw [fmL_take hi, Array.toList_push, ← hx]
    exact hvs.append' (.cons _ _ .nil)
theorem pr_ind {prog : Program} {w : World} {α : Type} {pvf : α → Value × Value} {A : Around} {h₀ : Heap} {env : Env} {xi xc : Str} {body orelse : List Stmt} {R : Flow → Shared → Prop} {s : Shared} {I : Addr} {news : List (Addr × Obj)} (G : List α → (Str → Option Value) → Prop) {l : List α} {m : Str → Option Value} (hG : G l m)
    (hnil : ∀ m, G [] m → PairsRest prog w A h₀ env xi xc body orelse R s I [] m news)
    (hcons : ∀ r l m, G (r :: l) m → (∀ m', G l m' → PairsRest prog w A h₀ env xi xc body orelse R s I (l.map pvf) m' news) → PairsRest prog w A h₀ env xi xc body orelse R s I (pvf r :: l.map pvf) m news) :
    PairsRest prog w A h₀ env xi xc body orelse R s I (l.map pvf) m news := by
  induction l generalizing m with
  | nil => exact hnil m hG
  | cons r l ih => exact hcons r l m hG fun m' h => ih h
theorem go_end {prog : Program} {w : World} {A : Around} {h₀ : Heap} {env : Env} {xi xc : Str} {body orelse : List Stmt} {R : Flow → Shared → Prop} {s : Shared} {I : Addr} {oI : Obj} {l : List (Value × Value)} {m' : Str → Option Value} {news news2 : List (Addr × Obj)} {h' : Heap} {tk : Nat}
    (F : Fr h₀ env.locals h' m') (N : News h₀ env.locals h' news2) (hsub : ∀ p ∈ (I, oI) :: news, p ∈ news2) (off : ∀ p ∈ news, p.1 ≠ I) (hR : PairsRest prog w A h₀ env xi xc body orelse R s I l m' news) :
    PairsGo h₀ env.locals s I oI (fun m' news' => PairsRest prog w A h₀ env xi xc body orelse R s I l m' news') { s with heap := h', toks := tk } :=
  ⟨h', tk, m', news, rfl, F, news_re N hsub, off, hR⟩
theorem pick_hit0 {n : Int} {d : Nat} {r : Row} {l : List Row} (h : Builtin.bitAnd n 61440 = r.1) : pickC n true d (r :: l) = r.2.2.1 := by unfold pickC; simp [h]
theorem pick_miss0 {n : Int} {d : Nat} {r : Row} {l : List Row} (h : Builtin.bitAnd n 61440 ≠ r.1) : pickC n true d (r :: l) = pickC n true d l := by conv => lhs; unfold pickC
                                                                                                                                                      simp [h]
theorem pick_hit1 {n : Int} {d : Nat} {r : Row} {l : List Row} (h : Builtin.bitAnd n r.1 = r.1) : pickC n false d (r :: l) = r.2.2.1 := by unfold pickC; simp [h]
theorem pick_miss1 {n : Int} {d : Nat} {r : Row} {l : List Row} (h : Builtin.bitAnd n r.1 ≠ r.1) : pickC n false d (r :: l) = pickC n false d l := by conv => lhs; unfold pickC
                                                                                                                                                      simp [h]
theorem pick_nil {n : Int} {z : Bool} {d : Nat} : pickC n z d [] = d := rfl
end

section
local macro_rules | `(tactic| walk_at "con enter") => `(tactic| (refine wpAny_call ?_; k_dflt (refine' code_defG (news := []) ?k1 ?k2 ?k3 ?k4 ?k5 ?kA ?kF ?kK ?k6 ?k7 ?k8 ?k9 ?kB ?_ ?c2 ?c3 ?c4 ?c5; (case kA => exact rfl); (case kF => exact rfl); (case kK => assumption); (case k1 => k_asm); (case k2 => k_asm); (case k3 => k_asm); (case k4 => exact News.nil); (case k5 => k_asm); (case k6 => k_is); (case k7 => k_is); (case k8 => ktr_room); (case k9 => exact BindsTo.of_eq rfl); (case c5 => decide); (case kB => exact locs rfl); (case c2 => exact rfl); (case c3 => exact rfl); (case c4 => exact rfl); k_whole; intro g' L' h' FG' F' N' B' X' T' GS'; (try dsimp only); (try k_fold))))
local macro_rules | `(tactic| walk_at "call ref") => `(tactic| (k_here; (with_reducible show wpAny _ _ (call (Value.ref 21) _) _ _ _); k_dflt (refine' con_use (con_ifmt _ _) ?k1 ?k2 ?k3 ?k4 ?k5 ?k6 ?k7 ?k8 ?_; (case k1 => k_asm); (case k2 => k_asm); (case k3 => k_asm); (case k4 => k_asm); (case k5 => k_asm); (case k6 => first | exact rfl | assumption); (case k7 => ktr_room); (case k8 => ktr_units); intro t9 h9 tk9 F9 N9 k9; (try dsimp only))))
section
variable {prog : Program} {w : World} {mean : ExcName → Option Value} {mg mb : Str → Option Value}
theorem con_fm (n : Int) (t : Tok) : Con prog w mean mg mb 10 61 [.int n t] (fun t' => .str ⟨(fmL n).toArray⟩ t') := by
  intro dp un gd cn cs a ccd cl outer A₀ base h₀ L m s Q E B F X T hk hd hu hret
  walk_at "con enter"
  rename GSub _ _ _ => GS'
  k_steps
  refine call_enum_tuple (items := (tabA.map Value.ref).toArray) rfl (tab_all (by assumption)) (by k_asm) (by k_asm) ?_
  intro h1 e1 F1 N1 S1
  rename_i P _ _ _ _ _
  refine S1.at _ rfl _ _ _ _ (FmJ n t P) ?_ ?_ ?_
  · exact ⟨rfl, rfl, #[], 0, .nil, rfl⟩
  · intro i av it v m₁ news₁ s₁ own hs₁ hav hv hJ hna hown F₁ N₁
    obtain ⟨h2, tk2, rfl⟩ := hs₁
    obtain ⟨hm, hp, vs, k, hvs, hn⟩ := hJ
    subst hn
    have hi : i < 10 := by
      have := (List.getElem?_eq_some_iff.mp hav).1
      simpa [tabA] using this
    have hav2 : v = .ref (tabA.getD i 0) := by
      have h8 : v = av := hv
      rw [h8]
      have h9 := hav
      rw [List.getElem?_map] at h9
      revert h9
      cases h7 : tabA[i]? with
      | none => simp
      | some b => simp [List.getD, h7]; exact fun h => h.symm
    subst hav2
    have hown2 : OwnOff own [P] := fun p hp b hb => by
      rw [List.mem_singleton.mp hb]; exact hown p hp _ (List.mem_singleton.mpr rfl)
    have N2 := news_re (l' := (P, listOf vs k) :: own) N₁ (by simp; exact fun a b h => .inl h)
    clear N₁
    have hz : vs.size ≤ sizeLine := by
      have h9 := hvs.length
      rw [List.length_map, List.length_take] at h9
      rw [← Array.length_toList, PySem.sizeLine_eq]; omega
    obtain ⟨items, ht, hl, hit⟩ := tab_row (w := w) (i := i) (a := tabA.getD i 0) (l := tabP.getD i []) (by assumption) (by simp [List.getD, tabA, hi]) (by simp [List.getD, tabP, hi])
    refine wpAny_execs_cons (for_pairs rfl rfl rfl rfl ?_ ht F₁ N2 hl hit ?_)
    · intro Q' hQ'
      k_steps
      exact hQ'
    · intro I hI
      have hIown : ∀ p ∈ (P, listOf vs k) :: own, p.1 ≠ I := fun p hp => Nat.ne_of_lt (hI p hp)
      have hPI : P ≠ I := hIown (P, listOf vs k) (List.mem_cons_self ..)
      rcases Nat.eq_zero_or_pos i with rfl | hpos
      · have hpk : pickC n true 63 (tabP.getD 0 []) = fmC n 0 := rfl
        refine pr_ind (fun l m' => (m' (Str.ofString "mode") = some (.int n t) ∧ m' (Str.ofString "perm") = some (.ref P) ∧ m' (Str.ofString "index") = some (.int 0 it)) ∧ pickC n true 63 l = fmC n 0) ⟨⟨hm, hp, rfl⟩, hpk⟩ ?_ ?_
        · intro m' hG
          obtain ⟨⟨g1, g2, g3⟩, g4⟩ := hG
          intro h5 tk5 F5 N5
          rw [map3 g1 g2 g3] at F5
          k_steps
          all_goals first
            | (exfalso; omega)
            | exact fm_end (by k_asm) (by k_asm) (by exact fun p hp => hp) hvs hi (by rw [← g4, pick_nil]; decide +kernel) rfl rfl
        · intro r l m' hG ih
          obtain ⟨⟨g1, g2, g3⟩, g4⟩ := hG
          intro oI h5 tk5 F5 N5
          rw [map3 g1 g2 g3] at F5
          replace N5 := news_re (l' := (P, listOf vs k) :: (I, oI) :: own) N5 (by simp; exact fun a b h => .inr (.inr h))
          have hown3 : OwnOff ((I, oI) :: own) [P] := fun p hp b hb => by
            rcases List.mem_cons.mp hp with h | h
            · rw [h, List.mem_singleton.mp hb]; exact hPI.symm
            · exact hown2 p h b hb
          dsimp only [pv] at F5 ⊢
          k_steps
          all_goals first
            | (exfalso; omega)
            | exact fm_end (by k_asm) (by k_asm) (by exact fun p hp => List.mem_cons_of_mem _ hp) hvs hi (by rw [← g4, pick_hit0 (by assumption)]; rfl) rfl rfl
            | exact go_end (by k_asm) (by k_asm) (by simp; exact fun a b h => .inr (.inr h)) hIown (ih _ ⟨⟨rfl, rfl, rfl⟩, by rw [← g4, pick_miss0 (by assumption)]⟩)
      · have hpk : pickC n false 45 (tabP.getD i []) = fmC n i := by
          obtain ⟨j, rfl⟩ : ∃ j, i = j + 1 := ⟨i - 1, by omega⟩
          rfl
        have hi0 : (i : Int) ≠ 0 := by omega
        refine pr_ind (fun l m' => (m' (Str.ofString "mode") = some (.int n t) ∧ m' (Str.ofString "perm") = some (.ref P) ∧ m' (Str.ofString "index") = some (.int i it)) ∧ pickC n false 45 l = fmC n i) ⟨⟨hm, hp, rfl⟩, hpk⟩ ?_ ?_
        · intro m' hG
          obtain ⟨⟨g1, g2, g3⟩, g4⟩ := hG
          intro h5 tk5 F5 N5
          rw [map3 g1 g2 g3] at F5
          k_steps
          all_goals first
            | (exfalso; omega)
            | exact fm_end (by k_asm) (by k_asm) (by exact fun p hp => hp) hvs hi (by rw [← g4, pick_nil]; decide +kernel) rfl rfl
        · intro r l m' hG ih
          obtain ⟨⟨g1, g2, g3⟩, g4⟩ := hG
          intro oI h5 tk5 F5 N5
          rw [map3 g1 g2 g3] at F5
          replace N5 := news_re (l' := (P, listOf vs k) :: (I, oI) :: own) N5 (by simp; exact fun a b h => .inr (.inr h))
          have hown3 : OwnOff ((I, oI) :: own) [P] := fun p hp b hb => by
            rcases List.mem_cons.mp hp with h | h
            · rw [h, List.mem_singleton.mp hb]; exact hPI.symm
            · exact hown2 p h b hb
          dsimp only [pv] at F5 ⊢
          k_steps
          all_goals first
            | (exfalso; omega)
            | exact fm_end (by k_asm) (by k_asm) (by exact fun p hp => List.mem_cons_of_mem _ hp) hvs hi (by rw [← g4, pick_hit1 (by assumption)]; rfl) rfl rfl
            | exact go_end (by k_asm) (by k_asm) (by simp; exact fun a b h => .inr (.inr h)) hIown (ih _ ⟨⟨rfl, rfl, rfl⟩, by rw [← g4, pick_miss1 (by assumption)]⟩)
  · intro h' tk m' news' F' N' hna hJ
    obtain ⟨hm, hp, vs, k, hvs, hn⟩ := hJ
    subst hn
    rw [map2 hm hp] at F'
    have hvs2 : StrsAre vs.toList ((fmL n).map one) := by
      have h9 := hvs
      rw [List.take_of_length_le (by rw [fmL_len]; decide)] at h9
      exact h9
    k_steps
    refine join_list (News.isList (by k_asm) (by k_mem)) hvs2 ?_ ?_
    · have h9 : ((fmL n).map one).map (·.length) = (fmL n).map fun _ => 1 := by rw [List.map_map]; rfl
      rw [h9, ofString_nil]
      rw [List.map_const']; simp [fmL_len, Str.length]
    · intro t8 k8
      rw [ofString_nil, join_nil, flat_one]
      k_steps
      exact hret _ _ _ (by k_asm) (fun b o e => Fr.keep (by k_asm) b o (GS' b o e (by simp)))
end
end

section
noncomputable abbrev sc32 : Scope := { kind := .function, names := [(Str.ofString "mode", .cell), (Str.ofString "sum", .globalImplicit), (Str.ofString "range", .globalImplicit)], isGenerator := false, isCoroutine := false, more := [(Str.ofString "fast", .str (Str.ofString "mode")), (Str.ofString "fast", .str (Str.ofString "j"))] }
noncomputable abbrev sc30 : Scope := { kind := .function, names := [(Str.ofString "text", .cell), (Str.ofString "held", .cell), (Str.ofString "range", .globalImplicit), (Str.ofString "len", .globalImplicit)], isGenerator := false, isCoroutine := false, more := [(Str.ofString "fast", .str (Str.ofString "text")), (Str.ofString "fast", .str (Str.ofString "sign")), (Str.ofString "fast", .str (Str.ofString "held")), (Str.ofString "fast", .str (Str.ofString "answer")), (Str.ofString "fast", .str (Str.ofString "k"))] }
section
variable {prog : Program} {w : World} {A : Around} {E : Value → Shared → Prop} {s : Shared} {Q : Value → Shared → Prop} {a n : Int} {t u : Tok}
theorem pow_lit (r : Int) (hr : a ^ n.toNat = r) (hn : 0 ≤ n) (hn2 : n ≤ 1000000) (ha : a.natAbs < 2 ^ 64) (h : Q (.int r s.toks) { s with toks := s.toks + 1 }) :
    wpAny (model prog w) A (binaryOp .Pow (.int a t) (.int n u)) Q E s := pow_int_small hn hn2 ha (by rw [hr]; exact h)
end
noncomputable def lk1 (n : Int) (p q : Int) : Int := if (n.fdiv p).fmod 2 = 1 ∧ (n.fdiv q).fmod 2 = 0 then q else 0
noncomputable def lackN (n : Int) : Int := lk1 n 512 1 + lk1 n 1024 8 + lk1 n 2048 64
end

section
section
variable {prog : Program} {w : World} {A₀ A : Around} {s : Shared} {base h₀ : Heap} {outer : List Env} {L : Addr} {m mg mb : Str → Option Value} {env : Env} {K : Frag} {p : Program} {loose : List Str} {mean : ExcName → Option Value}
/-- a def, entered with an empty ledger; what is bound is known by what it holds -/
theorem enter_plain {R : Result → Shared → Prop} {name qual : Str} {params : Arguments} {body : List Stmt} {scope : Scope} {dV kV doc pm cdv ct oc : Value} {an od : Option Addr} {osl : Array (Option Value)} {f : Addr} {args : Args} {binds : List (Str × Value)}
    (B : Below A₀ base outer h₀) (F : Fr h₀ L s.heap m) (X₀ : K.In h₀) (T : Top p loose mean mg mb h₀) (hA : A.frames = some (env :: outer)) (hf : env.frame = some L) (hke : env.scope.kind = .function)
    (ho : K.lookup f = some ⟨oc, od, .func (fnOf name qual params body scope dV kV doc pm an cdv ct), osl⟩) (hcd : codeIn K cdv qual = true) (hroom : A.depth < recursionLimit)
    (hbind : BindsTo s (fnOf name qual params body scope dV kV doc pm an cdv ct) args binds) (hloc : ∀ y ∈ binds, scope.names.lookup y.1 = some .local)
    (h : ∀ g L' h₁ tk m₁, (∀ y, m₁ y = binds.reverse.lookup y) → Fr h₀ L g m → Fr g L' h₁ m₁ → News g L' h₁ [] → Below A base (env :: outer) g → K.In g → Top p loose mean mg mb g → Kp s.heap g →
      wpAny (model prog w) (A.deeper (envOf qual scope L' f cdv)) (execs body (envOf qual scope L' f cdv))
        (fun fl s' => LeaveK h₀ L m g R (match fl with | .ret v => v | _ => .none) s')
        (fun e s' => wpAny (model prog w) (A.deeper (envOf qual scope L' f cdv)) («leaving» (envOf qual scope L' f cdv) e) (fun _ s'' => R (.error e) s'') (fun e' s'' => R (.error e') s'') s')
        { s with heap := h₁, toks := tk })
    (hco : scope.isCoroutine = false) (hgen : scope.isGenerator = false) (hk : scope.kind = .function)
    (hcell : ∀ x ∈ scope.names, x.2 ≠ .cell) : codeAny (model prog w) A (.call (.ref f) args) R s :=
  code_defG (news := []) B F X₀ News.nil T hA hf hke ho hcd hroom hbind hloc (fun g L' h₁ FG F' N' B' X' T' GS => h g L' h₁ _ _ (fun _ => rfl) FG F' N' B' X' T' (fun b o e => GS b o e (by simp))) hco hgen hk hcell
end
theorem map1 {m : Str → Option Value} {a : Str} {x : Option Value} (h1 : m a = x) : m = fun q => if q = a then x else m q := by
  funext q
  by_cases e1 : q = a
  · rw [if_pos e1, e1, h1]
  · rw [if_neg e1]
section
variable {prog : Program} {w : World} {A : Around} {E : Value → Shared → Prop} {s : Shared} {value slice : Expr} {t : Tok} {Q : Value → Shared → Prop} {a b c : Nat} {u : Tok}
theorem it0 (h : Q (.str ⟨#[a]⟩ s.toks) { s with toks := s.toks + 1 }) (hs : subscripted slice false (.str ⟨#[a, b, c]⟩ t) (.int 0 u) = operate [.str ⟨#[a, b, c]⟩ t, .int 0 u] (getItem (.str ⟨#[a, b, c]⟩ t) (.int 0 u)))
    (ht : ∀ r, letTemporaryGo value (.str ⟨#[a, b, c]⟩ t) r = pure ()) : wpAny (model prog w) A (subscriptTail value slice (.str ⟨#[a, b, c]⟩ t) (.int 0 u)) Q E s :=
  item_str (by decide) (by show -((3 : Nat) : Int) ≤ 0; decide) (by show (0 : Int) < ((3 : Nat) : Int); decide) (fun _ => h) hs ht
theorem it1 (h : Q (.str ⟨#[b]⟩ s.toks) { s with toks := s.toks + 1 }) (hs : subscripted slice false (.str ⟨#[a, b, c]⟩ t) (.int 1 u) = operate [.str ⟨#[a, b, c]⟩ t, .int 1 u] (getItem (.str ⟨#[a, b, c]⟩ t) (.int 1 u)))
    (ht : ∀ r, letTemporaryGo value (.str ⟨#[a, b, c]⟩ t) r = pure ()) : wpAny (model prog w) A (subscriptTail value slice (.str ⟨#[a, b, c]⟩ t) (.int 1 u)) Q E s :=
  item_str (by decide) (by show -((3 : Nat) : Int) ≤ 1; decide) (by show (1 : Int) < ((3 : Nat) : Int); decide) (fun _ => h) hs ht
theorem it2 (h : Q (.str ⟨#[c]⟩ s.toks) { s with toks := s.toks + 1 }) (hs : subscripted slice false (.str ⟨#[a, b, c]⟩ t) (.int 2 u) = operate [.str ⟨#[a, b, c]⟩ t, .int 2 u] (getItem (.str ⟨#[a, b, c]⟩ t) (.int 2 u)))
    (ht : ∀ r, letTemporaryGo value (.str ⟨#[a, b, c]⟩ t) r = pure ()) : wpAny (model prog w) A (subscriptTail value slice (.str ⟨#[a, b, c]⟩ t) (.int 2 u)) Q E s :=
  item_str (by decide) (by show -((3 : Nat) : Int) ≤ 2; decide) (by show (2 : Int) < ((3 : Nat) : Int); decide) (fun _ => h) hs ht
end
theorem sl0 (c0 c1 c2 c3 c4 c5 c6 c7 c8 c9 : Nat) : Txt.slice ⟨#[c0, c1, c2, c3, c4, c5, c6, c7, c8, c9]⟩ (some (3 * 0 + 1)) (some (3 * 0 + 4)) = ⟨#[c1, c2, c3]⟩ := rfl
theorem sl1 (c0 c1 c2 c3 c4 c5 c6 c7 c8 c9 : Nat) : Txt.slice ⟨#[c0, c1, c2, c3, c4, c5, c6, c7, c8, c9]⟩ (some (3 * 1 + 1)) (some (3 * 1 + 4)) = ⟨#[c4, c5, c6]⟩ := rfl
theorem sl2 (c0 c1 c2 c3 c4 c5 c6 c7 c8 c9 : Nat) : Txt.slice ⟨#[c0, c1, c2, c3, c4, c5, c6, c7, c8, c9]⟩ (some (3 * 2 + 1)) (some (3 * 2 + 4)) = ⟨#[c7, c8, c9]⟩ := rfl
theorem map4 {m : Str → Option Value} {a b c d : Str} {x y z u : Option Value} (h1 : m a = x) (h2 : m b = y) (h3 : m c = z) (h4 : m d = u) : m = fun q => if q = a then x else if q = b then y else if q = c then z else if q = d then u else m q := by
  funext q
  by_cases e1 : q = a
  · rw [if_pos e1, e1, h1]
  · rw [if_neg e1]
    by_cases e2 : q = b
    · rw [if_pos e2, e2, h2]
    · rw [if_neg e2]
      by_cases e3 : q = c
      · rw [if_pos e3, e3, h3]
      · rw [if_neg e3]
        by_cases e4 : q = d
        · rw [if_pos e4, e4, h4]
        · rw [if_neg e4]
local macro_rules | `(tactic| walk_at "con enter") => `(tactic| (refine wpAny_call ?_; k_dflt (refine' code_defG (news := []) ?k1 ?k2 ?k3 ?k4 ?k5 ?kA ?kF ?kK ?k6 ?k7 ?k8 ?k9 ?kB ?_ ?c2 ?c3 ?c4 ?c5; (case kA => exact rfl); (case kF => exact rfl); (case kK => assumption); (case k1 => k_asm); (case k2 => k_asm); (case k3 => k_asm); (case k4 => exact News.nil); (case k5 => k_asm); (case k6 => k_is); (case k7 => k_is); (case k8 => ktr_room); (case k9 => exact BindsTo.of_eq rfl); (case c5 => decide); (case kB => exact locs rfl); (case c2 => exact rfl); (case c3 => exact rfl); (case c4 => exact rfl); k_whole; intro g' L' h' FG' F' N' B' X' T' GS'; (try dsimp only); (try k_fold))))
local macro_rules | `(tactic| walk_at "con enterP") => `(tactic| (refine wpAny_call ?_; k_dflt (refine' enter_plain ?k1 ?k2 ?k3 ?k5 ?kA ?kF ?kK ?k6 ?k7 ?k8 ?k9 ?kB ?_ ?c2 ?c3 ?c4 ?c5; (case kA => exact rfl); (case kF => exact rfl); (case kK => assumption); (case k1 => k_asm); (case k2 => k_asm); (case k3 => k_asm); (case k5 => k_asm); (case k6 => k_is); (case k7 => k_is); (case k8 => ktr_room); (case k9 => exact BindsTo.of_eq rfl); (case c5 => decide); (case kB => exact locs rfl); (case c2 => exact rfl); (case c3 => exact rfl); (case c4 => exact rfl); k_whole; intro g' L' h' tk' m' hm' FG' F' N' B' X' T' GS')))
local macro_rules | `(tactic| walk_at "subscriptTail Name Constant str int") => `(tactic| (first | refine it0 ?_ (by with_unfolding_all rfl) (by intro _; with_unfolding_all rfl) | refine it1 ?_ (by with_unfolding_all rfl) (by intro _; with_unfolding_all rfl) | refine it2 ?_ (by with_unfolding_all rfl) (by intro _; with_unfolding_all rfl)))
local macro_rules | `(tactic| walk_at "subscriptTail Name Slice str ref") => `(tactic| ((with_reducible show wpAny _ _ (subscriptTail _ (Expr.Slice (some _) (some _) none _) _ _) _ _ _); (with_reducible rename Fr _ _ _ _ => F'); (with_reducible rename News _ _ _ _ => N'); (refine slice_strN_ss (hsz := ?hsz) (s := ⟨_, _, _, _, _⟩) F' N' ?_); (case hsz => size_fits); intro _ _ _ _ _; first | rw [sl0] | rw [sl1] | rw [sl2]))
section
variable {prog : Program} {w : World} {mean : ExcName → Option Value} {mg mb : Str → Option Value} {dp un : Nat} {gd : Option (List Code)} {cn : Str} {cs : Scope} {ad : Addr} {ccd : Value} {cl : List (Str × Addr)} {outer : List Env} {base h₀ : Heap} {L L' : Addr} {s : Shared} {Q : Flow → Shared → Prop} {E : Value → Shared → Prop} {m : Str → Option Value} {news : List (Addr × Obj)}
theorem one_eq {a b : Nat} {x : Str} (hx : x = ⟨#[b]⟩) : ((⟨#[a]⟩ : Str) == x) = decide (a = b) := by subst hx; by_cases h : a = b <;> simp [h]
theorem eqR (a : Nat) : ((⟨#[a]⟩ : Str) == Str.ofString "r") = decide (a = 114) := one_eq (by decide +kernel)
theorem eqW (a : Nat) : ((⟨#[a]⟩ : Str) == Str.ofString "w") = decide (a = 119) := one_eq (by decide +kernel)
theorem eqD (a : Nat) : ((⟨#[a]⟩ : Str) == Str.ofString "-") = decide (a = 45) := one_eq (by decide +kernel)
theorem eno {a b : Nat} {x : Str} (hx : x = ⟨#[b]⟩) : (x == (⟨#[a]⟩ : Str)) = decide (a = b) := by
  subst hx
  by_cases h : a = b
  · subst h; simp
  · have h2 : ¬ b = a := fun e => h e.symm
    simp [h, h2]
theorem enR (a : Nat) : (Str.ofString "r" == (⟨#[a]⟩ : Str)) = decide (a = 114) := eno (by decide +kernel)
theorem enW (a : Nat) : (Str.ofString "w" == (⟨#[a]⟩ : Str)) = decide (a = 119) := eno (by decide +kernel)
theorem enX (a : Nat) : (Str.ofString "x" == (⟨#[a]⟩ : Str)) = decide (a = 120) := eno (by decide +kernel)
theorem enD (a : Nat) : (Str.ofString "-" == (⟨#[a]⟩ : Str)) = decide (a = 45) := eno (by decide +kernel)
theorem enL (a l : Nat) : ((⟨#[l]⟩ : Str) == (⟨#[a]⟩ : Str)) = decide (a = l) := eno rfl
theorem eqL (a l : Nat) : ((⟨#[a]⟩ : Str) == ⟨#[l]⟩) = decide (a = l) := one_eq rfl
theorem rt_if0 {q1 q2 q3 q4 q5 q6 q7 q8 q9 q10 q11 q12 q13 : Pos} {a b c : Nat} {V R : Int} {tV tR tS : Tok} (F : Fr h₀ L' s.heap m) (N : News h₀ L' s.heap news) (m1 : m (Str.ofString "signs") = some (.str ⟨#[a, b, c]⟩ tS)) (m2 : m (Str.ofString "told") = some (.int V tV)) (m3 : m (Str.ofString "run") = some (.int R tR))
    (h : ∀ h' tk m', Fr h₀ L' h' m' → News h₀ L' h' news → (∃ u, m' (Str.ofString "told") = some (.int (if a = 114 then V + 4 * R else V) u)) → (∀ y, y ≠ Str.ofString "told" → m' y = m y) → Q .next { s with heap := h', toks := tk }) :
    wpAny (model prog w) ((ktrTop dp un gd cn cs L ad ccd cl outer).deeper (envOf (Str.ofString "_law_rights") (dS 31) L' 144 (.ref 143))) (exec (Stmt.If (((Expr.Name (Str.ofString "signs") q1).Subscript (Expr.Constant (Const.int 0) 0 q2) q3).Compare [CmpOp.Eq] [Expr.Constant (Const.str (Str.ofString "r")) 0 q4] q5) [Stmt.Assign [Expr.Name (Str.ofString "told") q6] ((Expr.Name (Str.ofString "told") q7).BinOp Operator.Add ((Expr.Constant (Const.int 4) 0 q8).BinOp Operator.Mult (Expr.Name (Str.ofString "run") q9) q10) q11) q12] [] q13) (envOf (Str.ofString "_law_rights") (dS 31) L' 144 (.ref 143))) Q E s := by
  obtain ⟨sh, sg, sd, st, so⟩ := s
  have F2 := F
  have key := map3 m1 m2 m3
  rw [key] at F2
  clear F
  k_steps
  all_goals (rename (_ : Bool) = _ => hb; simp only [bne, eqR] at hb; simp at hb)
  · exact h _ _ _ (by k_asm) (by k_asm) ⟨_, by rw [if_pos rfl, if_pos hb]⟩ (fun y hy => by rw [if_neg hy]; exact (congrFun key y).symm)
  · exact h _ _ _ (by k_asm) (by k_asm) ⟨_, (congrFun key (Str.ofString "told")).symm.trans (by rw [m2, if_neg hb])⟩ (fun y hy => (congrFun key y).symm)
theorem rt_if1 {q1 q2 q3 q4 q5 q6 q7 q8 q9 q10 q11 q12 q13 : Pos} {a b c : Nat} {V R : Int} {tV tR tS : Tok} (F : Fr h₀ L' s.heap m) (N : News h₀ L' s.heap news) (m1 : m (Str.ofString "signs") = some (.str ⟨#[a, b, c]⟩ tS)) (m2 : m (Str.ofString "told") = some (.int V tV)) (m3 : m (Str.ofString "run") = some (.int R tR))
    (h : ∀ h' tk m', Fr h₀ L' h' m' → News h₀ L' h' news → (∃ u, m' (Str.ofString "told") = some (.int (if b = 119 then V + 2 * R else V) u)) → (∀ y, y ≠ Str.ofString "told" → m' y = m y) → Q .next { s with heap := h', toks := tk }) :
    wpAny (model prog w) ((ktrTop dp un gd cn cs L ad ccd cl outer).deeper (envOf (Str.ofString "_law_rights") (dS 31) L' 144 (.ref 143))) (exec (Stmt.If (((Expr.Name (Str.ofString "signs") q1).Subscript (Expr.Constant (Const.int 1) 0 q2) q3).Compare [CmpOp.Eq] [Expr.Constant (Const.str (Str.ofString "w")) 0 q4] q5) [Stmt.Assign [Expr.Name (Str.ofString "told") q6] ((Expr.Name (Str.ofString "told") q7).BinOp Operator.Add ((Expr.Constant (Const.int 2) 0 q8).BinOp Operator.Mult (Expr.Name (Str.ofString "run") q9) q10) q11) q12] [] q13) (envOf (Str.ofString "_law_rights") (dS 31) L' 144 (.ref 143))) Q E s := by
  obtain ⟨sh, sg, sd, st, so⟩ := s
  have F2 := F
  have key := map3 m1 m2 m3
  rw [key] at F2
  clear F
  k_steps
  all_goals (rename (_ : Bool) = _ => hb; simp only [bne, eqW] at hb; simp at hb)
  · exact h _ _ _ (by k_asm) (by k_asm) ⟨_, by rw [if_pos rfl, if_pos hb]⟩ (fun y hy => by rw [if_neg hy]; exact (congrFun key y).symm)
  · exact h _ _ _ (by k_asm) (by k_asm) ⟨_, (congrFun key (Str.ofString "told")).symm.trans (by rw [m2, if_neg hb])⟩ (fun y hy => (congrFun key y).symm)
theorem rt_if2 {q1 q2 q3 q4 q5 q6 q7 q8 q9 q10 q11 : Pos} {a b c : Nat} {V R : Int} {tV tR tS : Tok} (F : Fr h₀ L' s.heap m) (N : News h₀ L' s.heap news) (m1 : m (Str.ofString "signs") = some (.str ⟨#[a, b, c]⟩ tS)) (m2 : m (Str.ofString "told") = some (.int V tV)) (m3 : m (Str.ofString "run") = some (.int R tR))
    (h : ∀ h' tk m', Fr h₀ L' h' m' → News h₀ L' h' news → (∃ u, m' (Str.ofString "told") = some (.int (if c = 45 then V else V + R) u)) → (∀ y, y ≠ Str.ofString "told" → m' y = m y) → Q .next { s with heap := h', toks := tk }) :
    wpAny (model prog w) ((ktrTop dp un gd cn cs L ad ccd cl outer).deeper (envOf (Str.ofString "_law_rights") (dS 31) L' 144 (.ref 143))) (exec (Stmt.If (((Expr.Name (Str.ofString "signs") q1).Subscript (Expr.Constant (Const.int 2) 0 q2) q3).Compare [CmpOp.NotEq] [Expr.Constant (Const.str (Str.ofString "-")) 0 q4] q5) [Stmt.Assign [Expr.Name (Str.ofString "told") q6] ((Expr.Name (Str.ofString "told") q7).BinOp Operator.Add (Expr.Name (Str.ofString "run") q8) q9) q10] [] q11) (envOf (Str.ofString "_law_rights") (dS 31) L' 144 (.ref 143))) Q E s := by
  obtain ⟨sh, sg, sd, st, so⟩ := s
  have F2 := F
  have key := map3 m1 m2 m3
  rw [key] at F2
  clear F
  k_steps
  all_goals (rename (_ : Bool) = _ => hb; simp only [bne, eqD] at hb; simp at hb)
  · exact h _ _ _ (by k_asm) (by k_asm) ⟨_, by rw [if_pos rfl, if_neg hb]⟩ (fun y hy => by rw [if_neg hy]; exact (congrFun key y).symm)
  · exact h _ _ _ (by k_asm) (by k_asm) ⟨_, (congrFun key (Str.ofString "told")).symm.trans (by rw [m2, if_pos hb])⟩ (fun y hy => (congrFun key y).symm)
theorem rt_if3 {q1 q2 q3 q4 q5 q6 q7 q8 q9 q10 q11 q12 q13 q14 q15 q16 q17 : Pos} {a b c l : Nat} {V R J : Int} {tV tR tS tL tJ : Tok} (F : Fr h₀ L' s.heap m) (N : News h₀ L' s.heap news) (m1 : m (Str.ofString "signs") = some (.str ⟨#[a, b, c]⟩ tS)) (m2 : m (Str.ofString "told") = some (.int V tV)) (m3 : m (Str.ofString "run") = some (.int R tR)) (m4 : m (Str.ofString "last") = some (.str ⟨#[l]⟩ tL)) (m5 : m (Str.ofString "j") = some (.int J tJ)) (hJ0 : 0 ≤ J) (hJ2 : J ≤ 2)
    (h : ∀ h' tk m', Fr h₀ L' h' m' → News h₀ L' h' news → (∃ u, m' (Str.ofString "told") = some (.int (if c = l then V + 512 * 2 ^ (2 - J).toNat else V) u)) → (∀ y, y ≠ Str.ofString "told" → m' y = m y) → Q .next { s with heap := h', toks := tk }) :
    wpAny (model prog w) ((ktrTop dp un gd cn cs L ad ccd cl outer).deeper (envOf (Str.ofString "_law_rights") (dS 31) L' 144 (.ref 143))) (exec (Stmt.If (((Expr.Name (Str.ofString "signs") q1).Subscript (Expr.Constant (Const.int 2) 0 q2) q3).Compare [CmpOp.Eq] [Expr.Name (Str.ofString "last") q4] q5) [Stmt.Assign [Expr.Name (Str.ofString "told") q6] ((Expr.Name (Str.ofString "told") q7).BinOp Operator.Add ((Expr.Constant (Const.int 512) 0 q8).BinOp Operator.Mult ((Expr.Constant (Const.int 2) 0 q9).BinOp Operator.Pow ((Expr.Constant (Const.int 2) 0 q10).BinOp Operator.Sub (Expr.Name (Str.ofString "j") q11) q12) q13) q14) q15) q16] [] q17) (envOf (Str.ofString "_law_rights") (dS 31) L' 144 (.ref 143))) Q E s := by
  obtain ⟨sh, sg, sd, st, so⟩ := s
  have F2 := F
  have key := map4 m1 m2 m4 m5
  rw [key] at F2
  clear F
  k_steps
  all_goals (rename (_ : Bool) = _ => hb; simp only [bne, eqL] at hb; simp at hb)
  · exact h _ _ _ (by k_asm) (by k_asm) ⟨_, by rw [if_pos rfl, if_pos hb]⟩ (fun y hy => by rw [if_neg hy]; exact (congrFun key y).symm)
  · exact h _ _ _ (by k_asm) (by k_asm) ⟨_, (congrFun key (Str.ofString "told")).symm.trans (by rw [m2, if_neg hb])⟩ (fun y hy => (congrFun key y).symm)
theorem rt_guard {q1 q2 q3 q4 q5 q6 q7 q8 q9 q10 q11 q12 q13 q14 q15 q16 q17 q18 q19 q20 q21 q22 q23 q24 q25 q26 q27 : Pos} {a b c l : Nat} {tS tL : Tok} (F : Fr h₀ L' s.heap m) (N : News h₀ L' s.heap news) (m1 : m (Str.ofString "signs") = some (.str ⟨#[a, b, c]⟩ tS)) (m4 : m (Str.ofString "last") = some (.str ⟨#[l]⟩ tL))
    (ha : a = 45 ∨ a = 114) (hb : b = 45 ∨ b = 119) (hc : c = 45 ∨ c = 120 ∨ c = l)
    (h : ∀ h' tk, Fr h₀ L' h' m → News h₀ L' h' news → Q .next { s with heap := h', toks := tk }) :
    wpAny (model prog w) ((ktrTop dp un gd cn cs L ad ccd cl outer).deeper (envOf (Str.ofString "_law_rights") (dS 31) L' 144 (.ref 143))) (exec (Stmt.If (Expr.BoolOp BoolOp.Or [((Expr.Name (Str.ofString "signs") q1).Subscript (Expr.Constant (Const.int 0) 0 q2) q3).Compare [CmpOp.NotIn] [Expr.List [Expr.Constant (Const.str (Str.ofString "-")) 0 q4, Expr.Constant (Const.str (Str.ofString "r")) 0 q5] q6] q7, ((Expr.Name (Str.ofString "signs") q8).Subscript (Expr.Constant (Const.int 1) 0 q9) q10).Compare [CmpOp.NotIn] [Expr.List [Expr.Constant (Const.str (Str.ofString "-")) 0 q11, Expr.Constant (Const.str (Str.ofString "w")) 0 q12] q13] q14, ((Expr.Name (Str.ofString "signs") q15).Subscript (Expr.Constant (Const.int 2) 0 q16) q17).Compare [CmpOp.NotIn] [Expr.List [Expr.Constant (Const.str (Str.ofString "-")) 0 q18, Expr.Constant (Const.str (Str.ofString "x")) 0 q19, Expr.Name (Str.ofString "last") q20] q21] q22] q23) [Stmt.Return (some (Expr.UnaryOp UnaryOp.USub (Expr.Constant (Const.int 1) 0 q24) q25)) q26] [] q27) (envOf (Str.ofString "_law_rights") (dS 31) L' 144 (.ref 143))) Q E s := by
  obtain ⟨sh, sg, sd, st, so⟩ := s
  have F2 := F
  have key := map2 m1 m4
  rw [key] at F2
  clear F
  k_steps
  · refine h _ _ ?_ ?_
    · rw [key]; k_asm
    · refine' news_re (l := ?ll) ?na ?nb
      case na => k_asm
      case nb => exact fun p hp => List.mem_cons_of_mem _ (List.mem_cons_of_mem _ (List.mem_cons_of_mem _ hp))
  all_goals (exfalso; rename List.any _ _ = false => hf; simp only [List.any_cons, List.any_nil, enR, enW, enX, enD, enL, Bool.or_false, Bool.or_eq_false_iff, decide_eq_false_iff_not] at hf; omega)
end
end

section
local macro_rules | `(tactic| walk_at "con enter") => `(tactic| (refine wpAny_call ?_; k_dflt (refine' code_defG (news := []) ?k1 ?k2 ?k3 ?k4 ?k5 ?kA ?kF ?kK ?k6 ?k7 ?k8 ?k9 ?kB ?_ ?c2 ?c3 ?c4 ?c5; (case kA => exact rfl); (case kF => exact rfl); (case kK => assumption); (case k1 => k_asm); (case k2 => k_asm); (case k3 => k_asm); (case k4 => exact News.nil); (case k5 => k_asm); (case k6 => k_is); (case k7 => k_is); (case k8 => ktr_room); (case k9 => exact BindsTo.of_eq rfl); (case c5 => decide); (case kB => exact locs rfl); (case c2 => exact rfl); (case c3 => exact rfl); (case c4 => exact rfl); k_whole; intro g' L' h' FG' F' N' B' X' T' GS'; (try dsimp only); (try k_fold))))
local macro_rules | `(tactic| walk_at "con enterP") => `(tactic| (refine wpAny_call ?_; k_dflt (refine' enter_plain ?k1 ?k2 ?k3 ?k5 ?kA ?kF ?kK ?k6 ?k7 ?k8 ?k9 ?kB ?_ ?c2 ?c3 ?c4 ?c5; (case kA => exact rfl); (case kF => exact rfl); (case kK => assumption); (case k1 => k_asm); (case k2 => k_asm); (case k3 => k_asm); (case k5 => k_asm); (case k6 => k_is); (case k7 => k_is); (case k8 => ktr_room); (case k9 => exact BindsTo.of_eq rfl); (case c5 => decide); (case kB => exact locs rfl); (case c2 => exact rfl); (case c3 => exact rfl); (case c4 => exact rfl); k_whole; intro g' L' h' tk' m' hm' FG' F' N' B' X' T' GS')))
local macro_rules | `(tactic| walk_at "subscriptTail Name Constant str int") => `(tactic| (first | refine it0 ?_ (by with_unfolding_all rfl) (by intro _; with_unfolding_all rfl) | refine it1 ?_ (by with_unfolding_all rfl) (by intro _; with_unfolding_all rfl) | refine it2 ?_ (by with_unfolding_all rfl) (by intro _; with_unfolding_all rfl)))
local macro_rules | `(tactic| walk_at "subscriptTail Name Slice str ref") => `(tactic| ((with_reducible show wpAny _ _ (subscriptTail _ (Expr.Slice (some _) (some _) none _) _ _) _ _ _); (with_reducible rename Fr _ _ _ _ => F'); (with_reducible rename News _ _ _ _ => N'); (refine slice_strN_ss (hsz := ?hsz) (s := ⟨_, _, _, _, _⟩) F' N' ?_); (case hsz => size_fits); intro _ _ _ _ _; first | rw [sl0] | rw [sl1] | rw [sl2]))
local macro_rules | `(tactic| walk_at "binaryOp Pow int int") => `(tactic| (k_here; first | (with_reducible refine pow_lit 1 ?kb0 ?kb1 ?kb2 ?kb3 ?_; (case kb0 => decide +kernel); (case kb1 => decide +kernel); (case kb2 => decide +kernel); (case kb3 => decide +kernel)) | (with_reducible refine pow_lit 2 ?kb0 ?kb1 ?kb2 ?kb3 ?_; (case kb0 => decide +kernel); (case kb1 => decide +kernel); (case kb2 => decide +kernel); (case kb3 => decide +kernel)) | (with_reducible refine pow_lit 4 ?kb0 ?kb1 ?kb2 ?kb3 ?_; (case kb0 => decide +kernel); (case kb1 => decide +kernel); (case kb2 => decide +kernel); (case kb3 => decide +kernel)) | (with_reducible refine pow_lit 8 ?kb0 ?kb1 ?kb2 ?kb3 ?_; (case kb0 => decide +kernel); (case kb1 => decide +kernel); (case kb2 => decide +kernel); (case kb3 => decide +kernel)) | (with_reducible refine pow_lit 64 ?kb0 ?kb1 ?kb2 ?kb3 ?_; (case kb0 => decide +kernel); (case kb1 => decide +kernel); (case kb2 => decide +kernel); (case kb3 => decide +kernel))))
section
variable {prog : Program} {w : World} {mean : ExcName → Option Value} {mg mb : Str → Option Value}
noncomputable def RtJ (t : Tok) (x : Str) (v : Nat → Int) (i : Nat) (m₁ : Str → Option Value) (nx : List (Addr × Obj)) : Prop :=
  m₁ (Str.ofString "row") = some (.str x t) ∧ (∃ u, m₁ (Str.ofString "told") = some (.int (v i) u)) ∧ nx = []
noncomputable def rt1 (a : Nat) (R V : Int) : Int := if a = 114 then V + 4 * R else V
noncomputable def rt2 (b : Nat) (R V : Int) : Int := if b = 119 then V + 2 * R else V
noncomputable def rt3 (c : Nat) (R V : Int) : Int := if c = 45 then V else V + R
noncomputable def rt4 (c l : Nat) (J V : Int) : Int := if c = l then V + 512 * 2 ^ (2 - J).toNat else V
noncomputable def rtV (a b c l : Nat) (R J V : Int) : Int := rt4 c l J (rt3 c R (rt2 b R (rt1 a R V)))
noncomputable def rtOk (a b c l : Nat) : Prop := (a = 45 ∨ a = 114) ∧ (b = 45 ∨ b = 119) ∧ (c = 45 ∨ c = 120 ∨ c = l)
theorem con_rights {c0 c1 c2 c3 c4 c5 c6 c7 c8 c9 : Nat} (o1 : rtOk c1 c2 c3 115) (o2 : rtOk c4 c5 c6 115) (o3 : rtOk c7 c8 c9 116) (t : Tok) (v : Nat → Int) (hv : v 0 = 0)
    (v1 : v 1 = rtV c1 c2 c3 115 64 0 (v 0)) (v2 : v 2 = rtV c4 c5 c6 115 8 1 (v 1)) (v3 : v 3 = rtV c7 c8 c9 116 1 2 (v 2)) : Con prog w mean mg mb 10 144 [.str ⟨#[c0, c1, c2, c3, c4, c5, c6, c7, c8, c9]⟩ t] (fun t' => .int (v 3) t') := by
  intro dp un gd cn cs a ccd cl outer A₀ base h₀ L m s Q E B F X T hk hd hu hret
  walk_at "con enterP"
  rename Kp _ _ => GS'
  rename ∀ y, _ = _ => hm'
  have e1 := hm' (Str.ofString "row")
  rename Fr _ _ _ _ => F'
  rw [map1 (e1.trans (by rfl : _ = some (Value.str ⟨#[c0, c1, c2, c3, c4, c5, c6, c7, c8, c9]⟩ t)))] at F'
  clear e1 hm'
  (try k_fold)
  (try dsimp only)
  iterate 13 walk1
  (try dsimp only)
  refine kpr_invN (RtJ t _ v) rfl (by assumption) (by decide) (n := 3) (by rfl) (by k_asm) (by k_asm) ⟨rfl, ⟨_, by rw [hv]; rfl⟩, rfl⟩ ?_ ?_
  · intro i k tt m₁ nx h2 tk2 own hi hown hJ F₁ N₁
    obtain ⟨hrow, ⟨u, htold⟩, rfl⟩ := hJ
    rw [map2 hrow htold] at F₁
    rw [List.nil_append] at N₁
    match i, hi with
    | 0, hi =>
      have hk0 : k = 0 := by have := Option.some.inj hi; exact this.symm
      subst hk0
      clear hi
      iterate 46 (first | walk1 | (dsimp only; walk1))
      (try dsimp only)
      refine rt_guard (l := 115) (by k_asm) (by k_asm) rfl rfl o1.1 o1.2.1 o1.2.2 ?_
      intro h5 tk5 F5 N5
      refine wpAny_execs_cons (rt_if0 F5 N5 rfl rfl rfl ?_)
      intro h6 tk6 m6 F6 N6 t6 k6
      obtain ⟨u6, t6⟩ := t6
      refine wpAny_execs_cons (rt_if1 F6 N6 ((k6 _ (by decide)).trans rfl) t6 ((k6 _ (by decide)).trans rfl) ?_)
      intro h7 tk7 m7 F7 N7 t7 k7
      obtain ⟨u7, t7⟩ := t7
      refine wpAny_execs_cons (rt_if2 F7 N7 ((k7 _ (by decide)).trans ((k6 _ (by decide)).trans rfl)) t7 ((k7 _ (by decide)).trans ((k6 _ (by decide)).trans rfl)) ?_)
      intro h8 tk8 m8 F8 N8 t8 k8
      obtain ⟨u8, t8⟩ := t8
      refine wpAny_execs_cons (rt_if3 (l := 115) (J := 0) F8 N8 ((k8 _ (by decide)).trans ((k7 _ (by decide)).trans ((k6 _ (by decide)).trans rfl))) t8 ((k8 _ (by decide)).trans ((k7 _ (by decide)).trans ((k6 _ (by decide)).trans rfl))) ((k8 _ (by decide)).trans ((k7 _ (by decide)).trans ((k6 _ (by decide)).trans rfl))) ((k8 _ (by decide)).trans ((k7 _ (by decide)).trans ((k6 _ (by decide)).trans rfl))) (by decide) (by decide) ?_)
      intro h9 tk9 m9 F9 N9 t9 k9
      obtain ⟨u9, t9⟩ := t9
      refine wpAny_execs_nil ?_
      refine InvEndN.intro F9 N9 (nx := []) ⟨(k9 _ (by decide)).trans ((k8 _ (by decide)).trans ((k7 _ (by decide)).trans ((k6 _ (by decide)).trans rfl))), ⟨u9, t9.trans ?_⟩, rfl⟩ rfl (by simp) (fun p hp => hp)
      rw [v1]; rfl
    | 1, hi =>
      have hk0 : k = 1 := by have := Option.some.inj hi; exact this.symm
      subst hk0
      clear hi
      iterate 46 (first | walk1 | (dsimp only; walk1))
      (try dsimp only)
      refine rt_guard (l := 115) (by k_asm) (by k_asm) rfl rfl o2.1 o2.2.1 o2.2.2 ?_
      intro h5 tk5 F5 N5
      refine wpAny_execs_cons (rt_if0 F5 N5 rfl rfl rfl ?_)
      intro h6 tk6 m6 F6 N6 t6 k6
      obtain ⟨u6, t6⟩ := t6
      refine wpAny_execs_cons (rt_if1 F6 N6 ((k6 _ (by decide)).trans rfl) t6 ((k6 _ (by decide)).trans rfl) ?_)
      intro h7 tk7 m7 F7 N7 t7 k7
      obtain ⟨u7, t7⟩ := t7
      refine wpAny_execs_cons (rt_if2 F7 N7 ((k7 _ (by decide)).trans ((k6 _ (by decide)).trans rfl)) t7 ((k7 _ (by decide)).trans ((k6 _ (by decide)).trans rfl)) ?_)
      intro h8 tk8 m8 F8 N8 t8 k8
      obtain ⟨u8, t8⟩ := t8
      refine wpAny_execs_cons (rt_if3 (l := 115) (J := 1) F8 N8 ((k8 _ (by decide)).trans ((k7 _ (by decide)).trans ((k6 _ (by decide)).trans rfl))) t8 ((k8 _ (by decide)).trans ((k7 _ (by decide)).trans ((k6 _ (by decide)).trans rfl))) ((k8 _ (by decide)).trans ((k7 _ (by decide)).trans ((k6 _ (by decide)).trans rfl))) ((k8 _ (by decide)).trans ((k7 _ (by decide)).trans ((k6 _ (by decide)).trans rfl))) (by decide) (by decide) ?_)
      intro h9 tk9 m9 F9 N9 t9 k9
      obtain ⟨u9, t9⟩ := t9
      refine wpAny_execs_nil ?_
      refine InvEndN.intro F9 N9 (nx := []) ⟨(k9 _ (by decide)).trans ((k8 _ (by decide)).trans ((k7 _ (by decide)).trans ((k6 _ (by decide)).trans rfl))), ⟨u9, t9.trans ?_⟩, rfl⟩ rfl (by simp) (fun p hp => hp)
      rw [v2]; rfl
    | 2, hi =>
      have hk0 : k = 2 := by have := Option.some.inj hi; exact this.symm
      subst hk0
      clear hi
      iterate 46 (first | walk1 | (dsimp only; walk1))
      (try dsimp only)
      refine rt_guard (l := 116) (by k_asm) (by k_asm) rfl rfl o3.1 o3.2.1 o3.2.2 ?_
      intro h5 tk5 F5 N5
      refine wpAny_execs_cons (rt_if0 F5 N5 rfl rfl rfl ?_)
      intro h6 tk6 m6 F6 N6 t6 k6
      obtain ⟨u6, t6⟩ := t6
      refine wpAny_execs_cons (rt_if1 F6 N6 ((k6 _ (by decide)).trans rfl) t6 ((k6 _ (by decide)).trans rfl) ?_)
      intro h7 tk7 m7 F7 N7 t7 k7
      obtain ⟨u7, t7⟩ := t7
      refine wpAny_execs_cons (rt_if2 F7 N7 ((k7 _ (by decide)).trans ((k6 _ (by decide)).trans rfl)) t7 ((k7 _ (by decide)).trans ((k6 _ (by decide)).trans rfl)) ?_)
      intro h8 tk8 m8 F8 N8 t8 k8
      obtain ⟨u8, t8⟩ := t8
      refine wpAny_execs_cons (rt_if3 (l := 116) (J := 2) F8 N8 ((k8 _ (by decide)).trans ((k7 _ (by decide)).trans ((k6 _ (by decide)).trans rfl))) t8 ((k8 _ (by decide)).trans ((k7 _ (by decide)).trans ((k6 _ (by decide)).trans rfl))) ((k8 _ (by decide)).trans ((k7 _ (by decide)).trans ((k6 _ (by decide)).trans rfl))) ((k8 _ (by decide)).trans ((k7 _ (by decide)).trans ((k6 _ (by decide)).trans rfl))) (by decide) (by decide) ?_)
      intro h9 tk9 m9 F9 N9 t9 k9
      obtain ⟨u9, t9⟩ := t9
      refine wpAny_execs_nil ?_
      refine InvEndN.intro F9 N9 (nx := []) ⟨(k9 _ (by decide)).trans ((k8 _ (by decide)).trans ((k7 _ (by decide)).trans ((k6 _ (by decide)).trans rfl))), ⟨u9, t9.trans ?_⟩, rfl⟩ rfl (by simp) (fun p hp => hp)
      rw [v3]; rfl
  · intro m₁ nx h2 tk2 hJ F₁ N₁
    obtain ⟨hrow, ⟨u, htold⟩, rfl⟩ := hJ
    rw [map2 hrow htold] at F₁
    k_steps
    exact hret _ _ _ (by k_asm) (fun b o e => Fr.keep (by k_asm) b o (GS' b o e))
end
end

section
theorem map6 {m : Str → Option Value} {a b c d e f : Str} {x y z u v w : Option Value} (h1 : m a = x) (h2 : m b = y) (h3 : m c = z) (h4 : m d = u) (h5 : m e = v) (h6 : m f = w) : m = fun q => if q = a then x else if q = b then y else if q = c then z else if q = d then u else if q = e then v else if q = f then w else m q := by
  funext q
  by_cases e1 : q = a
  · rw [if_pos e1, e1, h1]
  · rw [if_neg e1]
    by_cases e2 : q = b
    · rw [if_pos e2, e2, h2]
    · rw [if_neg e2]
      by_cases e3 : q = c
      · rw [if_pos e3, e3, h3]
      · rw [if_neg e3]
        by_cases e4 : q = d
        · rw [if_pos e4, e4, h4]
        · rw [if_neg e4]
          by_cases e5 : q = e
          · rw [if_pos e5, e5, h5]
          · rw [if_neg e5]
            by_cases e6 : q = f
            · rw [if_pos e6, e6, h6]
            · rw [if_neg e6]
noncomputable def nthL : List Int := [173, 847, 6150, 6155, 6156, 6157, 8203, 8204, 8205, 8288, 65279, 65024, 65025, 65026, 65027, 65028, 65029, 65030, 65031, 65032, 65033, 65034, 65035, 65036, 65037, 65038, 65039]
local macro_rules | `(tactic| walk_at "con enter") => `(tactic| (refine wpAny_call ?_; k_dflt (refine' code_defG (news := []) ?k1 ?k2 ?k3 ?k4 ?k5 ?kA ?kF ?kK ?k6 ?k7 ?k8 ?k9 ?kB ?_ ?c2 ?c3 ?c4 ?c5; (case kA => exact rfl); (case kF => exact rfl); (case kK => assumption); (case k1 => k_asm); (case k2 => k_asm); (case k3 => k_asm); (case k4 => exact News.nil); (case k5 => k_asm); (case k6 => k_is); (case k7 => k_is); (case k8 => ktr_room); (case k9 => exact BindsTo.of_eq rfl); (case c5 => decide); (case kB => exact locs rfl); (case c2 => exact rfl); (case c3 => exact rfl); (case c4 => exact rfl); k_whole; intro g' L' h' FG' F' N' B' X' T' GS'; (try dsimp only); (try k_fold))))
local macro_rules | `(tactic| walk_at "con enterP") => `(tactic| (refine wpAny_call ?_; k_dflt (refine' enter_plain ?k1 ?k2 ?k3 ?k5 ?kA ?kF ?kK ?k6 ?k7 ?k8 ?k9 ?kB ?_ ?c2 ?c3 ?c4 ?c5; (case kA => exact rfl); (case kF => exact rfl); (case kK => assumption); (case k1 => k_asm); (case k2 => k_asm); (case k3 => k_asm); (case k5 => k_asm); (case k6 => k_is); (case k7 => k_is); (case k8 => ktr_room); (case k9 => exact BindsTo.of_eq rfl); (case c5 => decide); (case kB => exact locs rfl); (case c2 => exact rfl); (case c3 => exact rfl); (case c4 => exact rfl); k_whole; intro g' L' h' tk' m' hm' FG' F' N' B' X' T' GS')))
noncomputable def dgBody : List Stmt := match (dB 29)[3]? with | some (Stmt.For _ _ b _ _) => b | _ => []
noncomputable def dgS5 : Stmt := match dgBody[5]? with | some x => x | _ => default
noncomputable def dgS6 : Stmt := match dgBody[6]? with | some x => x | _ => default
noncomputable def alL : List Int := [0, 1, 2, 4, 7, 8, 9, 10, 11, 12]
noncomputable def dgC (c f : Int) : Int := if 64 < c ∧ f = 1 then 64 + c.fmod 32 else if 64 < c ∧ 1 < f then 119807 + 52 * alL.getD (f - 2).toNat 0 + c.fmod 32 else c
noncomputable def dgG (gp : Int) : List Nat := if gp < 27 then [(nthL.getD gp.toNat 0).toNat] else []
theorem nth_bound (j : Nat) : 0 ≤ nthL.getD j 0 ∧ nthL.getD j 0 ≤ 1114111 := by
  by_cases hj : j < 27
  · revert j; decide +kernel
  · have e : nthL[j]? = none := List.getElem?_eq_none (by simp [nthL]; omega)
    rw [List.getD, e]; decide
section
variable {prog : Program} {w : World} {mean : ExcName → Option Value} {mg mb : Str → Option Value} {dp un : Nat} {gd : Option (List Code)} {cn : Str} {cs : Scope} {ad : Addr} {ccd : Value} {cl : List (Str × Addr)} {outer : List Env} {base h₀ : Heap} {L L' : Addr} {s : Shared} {Q : Flow → Shared → Prop} {E : Value → Shared → Prop} {m : Str → Option Value} {news own : List (Addr × Obj)}
theorem dg_code {q1 q2 q3 q4 q5 q6 q7 q8 q9 q10 q11 q12 q13 q14 q15 q16 q17 q18 q19 q20 q21 q22 q23 q24 q25 q26 q27 q28 q29 q30 q31 q32 q33 q34 q35 q36 q37 q38 : Pos} {c f : Int} {tc tf : Tok} {Al : Addr} {als : List Value} (F : Fr h₀ L' s.heap m) (N : News h₀ L' s.heap ((Al, listOf als.toArray 0) :: own)) (hals : IntsAre als [0, 1, 2, 4, 7, 8, 9, 10, 11, 12]) (hf0 : 0 ≤ f) (hf1 : f < 12)
    (m1 : m (Str.ofString "code") = some (.int c tc)) (m2 : m (Str.ofString "form") = some (.int f tf)) (m3 : m (Str.ofString "alphabets") = some (.ref Al))
    (h : ∀ h' tk m', Fr h₀ L' h' m' → News h₀ L' h' ((Al, listOf als.toArray 0) :: own) → (∃ u, m' (Str.ofString "code") = some (.int (dgC c f) u)) → (∀ y, y ≠ Str.ofString "code" → m' y = m y) → Q .next { s with heap := h', toks := tk }) :
    wpAny (model prog w) ((ktrTop dp un gd cn cs L ad ccd cl outer).deeper (envOf (Str.ofString "_law_disguised") (dS 29) L' 132 (.ref 131))) (exec (Stmt.If (Expr.BoolOp BoolOp.And [(Expr.Name (Str.ofString "code") q1).Compare [CmpOp.Gt] [(Expr.Constant (Const.int 64) 0 q2)] q3, (Expr.Name (Str.ofString "form") q4).Compare [CmpOp.Eq] [(Expr.Constant (Const.int 1) 0 q5)] q6] q7) [Stmt.Assign [(Expr.Name (Str.ofString "code") q8)] ((Expr.Constant (Const.int 64) 0 q9).BinOp Operator.Add ((Expr.Name (Str.ofString "code") q10).BinOp Operator.Mod (Expr.Constant (Const.int 32) 0 q11) q12) q13) q14] [Stmt.If (Expr.BoolOp BoolOp.And [(Expr.Name (Str.ofString "code") q15).Compare [CmpOp.Gt] [(Expr.Constant (Const.int 64) 0 q16)] q17, (Expr.Name (Str.ofString "form") q18).Compare [CmpOp.Gt] [(Expr.Constant (Const.int 1) 0 q19)] q20] q21) [Stmt.Assign [(Expr.Name (Str.ofString "code") q22)] (((Expr.Constant (Const.int 119807) 0 q23).BinOp Operator.Add ((Expr.Constant (Const.int 52) 0 q24).BinOp Operator.Mult ((Expr.Name (Str.ofString "alphabets") q25).Subscript ((Expr.Name (Str.ofString "form") q26).BinOp Operator.Sub (Expr.Constant (Const.int 2) 0 q27) q28) q29) q30) q31).BinOp Operator.Add ((Expr.Name (Str.ofString "code") q32).BinOp Operator.Mod (Expr.Constant (Const.int 32) 0 q33) q34) q35) q36] [] q37] q38) (envOf (Str.ofString "_law_disguised") (dS 29) L' 132 (.ref 131))) Q E s := by
  obtain ⟨sh, sg, sd, st, so⟩ := s
  have F2 := F
  have key := map3 m1 m2 m3
  rw [key] at F2
  clear F
  k_steps
  all_goals first
    | (exfalso; omega)
    | exact h _ _ _ (by k_asm) (by k_asm) ⟨_, by rw [if_pos rfl]; unfold dgC; rw [if_pos ⟨by omega, by omega⟩]⟩ (fun y hy => by rw [if_neg hy]; exact (congrFun key y).symm)
    | exact h _ _ _ (by k_asm) (by k_asm) ⟨_, by rw [if_pos rfl]; unfold dgC; rw [if_neg (by omega), if_pos ⟨by omega, by omega⟩]; rfl⟩ (fun y hy => by rw [if_neg hy]; exact (congrFun key y).symm)
    | exact h _ _ _ (by k_asm) (by k_asm) ⟨_, (congrFun key (Str.ofString "code")).symm.trans (by unfold dgC; rw [m1, if_neg (by omega), if_neg (by omega)])⟩ (fun y hy => (congrFun key y).symm)
theorem dg_app {c : Int} {tc : Tok} {Sg : Addr} {vs : Array Value} {kk : Nat} (X : (kF w.params).In h₀) (T : Top qB (looseW qB looseB) mean mg mb h₀) (F : Fr h₀ L' s.heap m) (N : News h₀ L' s.heap ((Sg, listOf vs kk) :: own)) (ho : OwnOff own [Sg]) (hz : vs.size ≤ 100) (hc0 : 0 ≤ c) (hc1 : c ≤ 1114111)
    (m1 : m (Str.ofString "code") = some (.int c tc)) (m2 : m (Str.ofString "signs") = some (.ref Sg))
    (h : ∀ h' tk u, Fr h₀ L' h' m → News h₀ L' h' ((Sg, listOf (vs.push (.str (one c.toNat) u)) (kk + 1)) :: own) → Q .next { s with heap := h', toks := tk }) :
    wpAny (model prog w) ((ktrTop dp un gd cn cs L ad ccd cl outer).deeper (envOf (Str.ofString "_law_disguised") (dS 29) L' 132 (.ref 131))) (exec (dgS5) (envOf (Str.ofString "_law_disguised") (dS 29) L' 132 (.ref 131))) Q E s := by
  obtain ⟨sh, sg, sd, st, so⟩ := s
  conv in dgS5 => whnf
  have F2 := F
  have key := map2 m1 m2
  rw [key] at F2
  clear F
  k_steps
  exact h _ _ _ (by rw [key]; k_asm) (by k_asm)
theorem dg_gap {gp : Int} {tc : Tok} {Sg D : Addr} {vs : Array Value} {us : List Value} {kk : Nat} (X : (kF w.params).In h₀) (T : Top qB (looseW qB looseB) mean mg mb h₀) (F : Fr h₀ L' s.heap m) (N : News h₀ L' s.heap ((Sg, listOf vs kk) :: (D, listOf us.toArray 0) :: own)) (ho1 : D ≠ Sg) (ho : OwnOff own [Sg]) (hz : vs.size ≤ 100) (hus : IntsAre us [173, 847, 6150, 6155, 6156, 6157, 8203, 8204, 8205, 8288, 65279, 65024, 65025, 65026, 65027, 65028, 65029, 65030, 65031, 65032, 65033, 65034, 65035, 65036, 65037, 65038, 65039]) (hc0 : 0 ≤ gp) (hc1 : gp < 28)
    (m1 : m (Str.ofString "gap") = some (.int gp tc)) (m2 : m (Str.ofString "signs") = some (.ref Sg)) (m3 : m (Str.ofString "nothings") = some (.ref D))
    (h : ∀ h' tk vs' kk', Fr h₀ L' h' m → News h₀ L' h' ((Sg, listOf vs' kk') :: (D, listOf us.toArray 0) :: own) → (∃ us', vs'.toList = vs.toList ++ us' ∧ StrsAre us' ((dgG gp).map one)) → Q .next { s with heap := h', toks := tk }) :
    wpAny (model prog w) ((ktrTop dp un gd cn cs L ad ccd cl outer).deeper (envOf (Str.ofString "_law_disguised") (dS 29) L' 132 (.ref 131))) (exec (dgS6) (envOf (Str.ofString "_law_disguised") (dS 29) L' 132 (.ref 131))) Q E s := by
  obtain ⟨sh, sg, sd, st, so⟩ := s
  conv in dgS6 => whnf
  have F2 := F
  have key := map3 m1 m2 m3
  rw [key] at F2
  clear F
  k_steps
  · have hb := nth_bound gp.toNat
    refine chr_of_range hb.1 hb.2 ?_
    k_steps
    exact h _ _ _ _ (by rw [key]; k_asm) (by k_asm) ⟨[_], by rw [Array.toList_push], by unfold dgG; rw [if_pos (by assumption)]; exact .cons _ _ .nil⟩
  · exact h _ _ _ _ (by rw [key]; k_asm) (by k_asm) ⟨[], by simp, by unfold dgG; rw [if_neg (by assumption)]; exact .nil⟩
end
end

section
local macro_rules | `(tactic| walk_at "con enter") => `(tactic| (refine wpAny_call ?_; k_dflt (refine' code_defG (news := []) ?k1 ?k2 ?k3 ?k4 ?k5 ?kA ?kF ?kK ?k6 ?k7 ?k8 ?k9 ?kB ?_ ?c2 ?c3 ?c4 ?c5; (case kA => exact rfl); (case kF => exact rfl); (case kK => assumption); (case k1 => k_asm); (case k2 => k_asm); (case k3 => k_asm); (case k4 => exact News.nil); (case k5 => k_asm); (case k6 => k_is); (case k7 => k_is); (case k8 => ktr_room); (case k9 => exact BindsTo.of_eq rfl); (case c5 => decide); (case kB => exact locs rfl); (case c2 => exact rfl); (case c3 => exact rfl); (case c4 => exact rfl); k_whole; intro g' L' h' FG' F' N' B' X' T' GS'; (try dsimp only); (try k_fold))))
local macro_rules | `(tactic| walk_at "con enterP") => `(tactic| (refine wpAny_call ?_; k_dflt (refine' enter_plain ?k1 ?k2 ?k3 ?k5 ?kA ?kF ?kK ?k6 ?k7 ?k8 ?k9 ?kB ?_ ?c2 ?c3 ?c4 ?c5; (case kA => exact rfl); (case kF => exact rfl); (case kK => assumption); (case k1 => k_asm); (case k2 => k_asm); (case k3 => k_asm); (case k5 => k_asm); (case k6 => k_is); (case k7 => k_is); (case k8 => ktr_room); (case k9 => exact BindsTo.of_eq rfl); (case c5 => decide); (case kB => exact locs rfl); (case c2 => exact rfl); (case c3 => exact rfl); (case c4 => exact rfl); k_whole; intro g' L' h' tk' m' hm' FG' F' N' B' X' T' GS')))
noncomputable def dgS0 : Stmt := match dgBody[0]? with | some x => x | _ => default
noncomputable def dgS1 : Stmt := match dgBody[1]? with | some x => x | _ => default
noncomputable def dgS2 : Stmt := match dgBody[2]? with | some x => x | _ => default
noncomputable def dgS3 : Stmt := match dgBody[3]? with | some x => x | _ => default
section
variable {prog : Program} {w : World} {mean : ExcName → Option Value} {mg mb : Str → Option Value} {dp un : Nat} {gd : Option (List Code)} {cn : Str} {cs : Scope} {ad : Addr} {ccd : Value} {cl : List (Str × Addr)} {outer : List Env} {base h₀ : Heap} {L L' : Addr} {s : Shared} {Q : Flow → Shared → Prop} {E : Value → Shared → Prop} {m : Str → Option Value} {news own : List (Addr × Obj)}
theorem dg_s0 {n k : Int} {tn tk0 : Tok} (F : Fr h₀ L' s.heap m) (N : News h₀ L' s.heap news) (hk0 : 0 ≤ k) (hk1 : k < 10) (hn : 0 ≤ n) (hpy : Builtin.divisionGoesByPylong n (1000 ^ k.toNat) = false)
    (m1 : m (Str.ofString "number") = some (.int n tn)) (m2 : m (Str.ofString "k") = some (.int k tk0))
    (h : ∀ h' tk m', Fr h₀ L' h' m' → News h₀ L' h' news → (∃ u, m' (Str.ofString "turn") = some (.int ((n.fdiv (1000 ^ k.toNat)).fmod 1000 + 13 * k) u)) → (∀ y, y ≠ Str.ofString "turn" → m' y = m y) → Q .next { s with heap := h', toks := tk }) :
    wpAny (model prog w) ((ktrTop dp un gd cn cs L ad ccd cl outer).deeper (envOf (Str.ofString "_law_disguised") (dS 29) L' 132 (.ref 131))) (exec dgS0 (envOf (Str.ofString "_law_disguised") (dS 29) L' 132 (.ref 131))) Q E s := by
  obtain ⟨sh, sg, sd, st, so⟩ := s
  conv in dgS0 => whnf
  have F2 := F
  have key := map2 m1 m2
  rw [key] at F2
  clear F
  have hpw : (1000 : Int) ^ k.toNat ≠ 0 := Int.ne_of_gt (Int.pow_pos (by decide))
  k_steps
  refine floordiv_int hpw ?_ (Or.inl hpy)
  have hb1 : 0 ≤ (n.fdiv (1000 ^ k.toNat)).fmod 1000 := Int.fmod_nonneg_of_pos _ (by decide)
  have hb2 : (n.fdiv (1000 ^ k.toNat)).fmod 1000 < 1000 := Int.fmod_lt_of_pos _ (by decide)
  generalize hgn : n.fdiv (1000 ^ k.toNat) = nq at hb1 hb2 ⊢
  k_steps
  exact h _ _ _ (by k_asm) (by k_asm) ⟨_, by rw [if_pos rfl, hgn]⟩ (fun y hy => by rw [if_neg hy]; exact (congrFun key y).symm)
theorem dg_s1 {n : Int} {tn : Tok} (F : Fr h₀ L' s.heap m) (N : News h₀ L' s.heap news)
    (m1 : m (Str.ofString "turn") = some (.int n tn))
    (h : ∀ h' tk m', Fr h₀ L' h' m' → News h₀ L' h' news → (∃ u, m' (Str.ofString "form") = some (.int (n.fmod 12) u)) → (∀ y, y ≠ Str.ofString "form" → m' y = m y) → Q .next { s with heap := h', toks := tk }) :
    wpAny (model prog w) ((ktrTop dp un gd cn cs L ad ccd cl outer).deeper (envOf (Str.ofString "_law_disguised") (dS 29) L' 132 (.ref 131))) (exec dgS1 (envOf (Str.ofString "_law_disguised") (dS 29) L' 132 (.ref 131))) Q E s := by
  obtain ⟨sh, sg, sd, st, so⟩ := s
  conv in dgS1 => whnf
  have F2 := F
  have key := map1 m1
  rw [key] at F2
  clear F
  k_steps
  exact h _ _ _ (by k_asm) (by k_asm) ⟨_, by rw [if_pos rfl]⟩ (fun y hy => by rw [if_neg hy]; exact (congrFun key y).symm)
theorem dg_s2 {n : Int} {tn : Tok} (F : Fr h₀ L' s.heap m) (N : News h₀ L' s.heap news)
    (m1 : m (Str.ofString "turn") = some (.int n tn))
    (h : ∀ h' tk m', Fr h₀ L' h' m' → News h₀ L' h' news → (∃ u, m' (Str.ofString "gap") = some (.int ((n.fdiv 12).fmod 28) u)) → (∀ y, y ≠ Str.ofString "gap" → m' y = m y) → Q .next { s with heap := h', toks := tk }) :
    wpAny (model prog w) ((ktrTop dp un gd cn cs L ad ccd cl outer).deeper (envOf (Str.ofString "_law_disguised") (dS 29) L' 132 (.ref 131))) (exec dgS2 (envOf (Str.ofString "_law_disguised") (dS 29) L' 132 (.ref 131))) Q E s := by
  obtain ⟨sh, sg, sd, st, so⟩ := s
  conv in dgS2 => whnf
  have F2 := F
  have key := map1 m1
  rw [key] at F2
  clear F
  k_steps
  exact h _ _ _ (by k_asm) (by k_asm) ⟨_, by rw [if_pos rfl]⟩ (fun y hy => by rw [if_neg hy]; exact (congrFun key y).symm)
theorem dg_s3 {x : Str} {k : Int} {tn tk0 : Tok} (X : (kF w.params).In h₀) (T : Top qB (looseW qB looseB) mean mg mb h₀) (F : Fr h₀ L' s.heap m) (N : News h₀ L' s.heap news) (hx : x.length = 10) (hk0 : 0 ≤ k) (hk1 : k < 10)
    (m1 : m (Str.ofString "row") = some (.str x tn)) (m2 : m (Str.ofString "k") = some (.int k tk0))
    (h : ∀ h' tk m', Fr h₀ L' h' m' → News h₀ L' h' news → (∃ u, m' (Str.ofString "code") = some (.int ((x.cps.getD k.toNat 0 : Nat) : Int) u)) → (∀ y, y ≠ Str.ofString "code" → m' y = m y) → Q .next { s with heap := h', toks := tk }) :
    wpAny (model prog w) ((ktrTop dp un gd cn cs L ad ccd cl outer).deeper (envOf (Str.ofString "_law_disguised") (dS 29) L' 132 (.ref 131))) (exec dgS3 (envOf (Str.ofString "_law_disguised") (dS 29) L' 132 (.ref 131))) Q E s := by
  obtain ⟨sh, sg, sd, st, so⟩ := s
  conv in dgS3 => whnf
  have F2 := F
  have key := map2 m1 m2
  rw [key] at F2
  clear F
  k_steps
  have hi : Txt.item x k = ⟨#[x.cps.getD k.toNat 0]⟩ := item_at hk0 (by omega) rfl
  exact h _ _ _ (by k_asm) (by k_asm) ⟨_, by rw [if_pos rfl, hi]; rfl⟩ (fun y hy => by rw [if_neg hy]; exact (congrFun key y).symm)
noncomputable def dgS4 : Stmt := match dgBody[4]? with | some x => x | _ => default
theorem dgBody_eq : dgBody = [dgS0, dgS1, dgS2, dgS3, dgS4, dgS5, dgS6] := by rfl
theorem dg_s4 {c f : Int} {tc tf : Tok} {Al : Addr} {als : List Value} (F : Fr h₀ L' s.heap m) (N : News h₀ L' s.heap ((Al, listOf als.toArray 0) :: own)) (hals : IntsAre als [0, 1, 2, 4, 7, 8, 9, 10, 11, 12]) (hf0 : 0 ≤ f) (hf1 : f < 12)
    (m1 : m (Str.ofString "code") = some (.int c tc)) (m2 : m (Str.ofString "form") = some (.int f tf)) (m3 : m (Str.ofString "alphabets") = some (.ref Al))
    (h : ∀ h' tk m', Fr h₀ L' h' m' → News h₀ L' h' ((Al, listOf als.toArray 0) :: own) → (∃ u, m' (Str.ofString "code") = some (.int (dgC c f) u)) → (∀ y, y ≠ Str.ofString "code" → m' y = m y) → Q .next { s with heap := h', toks := tk }) :
    wpAny (model prog w) ((ktrTop dp un gd cn cs L ad ccd cl outer).deeper (envOf (Str.ofString "_law_disguised") (dS 29) L' 132 (.ref 131))) (exec dgS4 (envOf (Str.ofString "_law_disguised") (dS 29) L' 132 (.ref 131))) Q E s := by
  conv in dgS4 => whnf
  exact dg_code F N hals hf0 hf1 m1 m2 m3 h
end
noncomputable def dgTn (n : Int) (k : Int) : Int := (n.fdiv (1000 ^ k.toNat)).fmod 1000 + 13 * k
noncomputable def dgP (x : Str) (n : Int) (k : Int) : List Nat := (dgC ((x.cps.getD k.toNat 0 : Nat) : Int) ((dgTn n k).fmod 12)).toNat :: dgG (((dgTn n k).fdiv 12).fmod 28)
theorem al_bound (j : Nat) : 0 ≤ alL.getD j 0 ∧ alL.getD j 0 ≤ 12 := by
  by_cases hj : j < 10
  · revert j; decide +kernel
  · have e : alL[j]? = none := List.getElem?_eq_none (by simp [alL]; omega)
    rw [List.getD, e]; decide
theorem dgC_bound {c f : Int} (h0 : 0 ≤ c) (h1 : c < 128) : 0 ≤ dgC c f ∧ dgC c f ≤ 1114111 := by
  unfold dgC
  have h2 := Int.fmod_nonneg_of_pos c (b := 32) (by decide)
  have h3 := Int.fmod_lt_of_pos c (b := 32) (by decide)
  have h4 := al_bound (f - 2).toNat
  split
  · omega
  · split
    · omega
    · omega
section
variable {prog : Program} {w : World} {mean : ExcName → Option Value} {mg mb : Str → Option Value} {dp un : Nat} {gd : Option (List Code)} {cn : Str} {cs : Scope} {ad : Addr} {ccd : Value} {cl : List (Str × Addr)} {outer : List Env} {base h₀ : Heap} {L L' : Addr} {s : Shared} {Q : Flow → Shared → Prop} {E : Value → Shared → Prop} {m : Str → Option Value} {news own : List (Addr × Obj)}
theorem dg_turn {x : Str} {k n : Int} {t tn tk0 : Tok} {Sg Al D : Addr} {vs : Array Value} {als us : List Value} {kk : Nat} (F : Fr h₀ L' s.heap m) (N : News h₀ L' s.heap ((Sg, listOf vs kk) :: (Al, listOf als.toArray 0) :: (D, listOf us.toArray 0) :: own))
    (T : Top qB (looseW qB looseB) mean mg mb h₀) (X : (kF w.params).In h₀)
    (o1 : Al ≠ Sg) (o2 : D ≠ Sg) (o3 : OwnOff own [Sg]) (hz : vs.size ≤ 50) (hus : IntsAre us nthL) (hals : IntsAre als [0, 1, 2, 4, 7, 8, 9, 10, 11, 12]) (hx : x.length = 10) (hk0 : 0 ≤ k) (hk1 : k < 10) (hn : 0 ≤ n) (hc : x.cps.getD k.toNat 0 < 128) (hpy : Builtin.divisionGoesByPylong n (1000 ^ k.toNat) = false)
    (m1 : m (Str.ofString "row") = some (.str x t)) (m2 : m (Str.ofString "number") = some (.int n tn)) (m3 : m (Str.ofString "nothings") = some (.ref D)) (m4 : m (Str.ofString "alphabets") = some (.ref Al)) (m5 : m (Str.ofString "signs") = some (.ref Sg)) (m6 : m (Str.ofString "k") = some (.int k tk0))
    (h : ∀ h' tk m' vs' kk', Fr h₀ L' h' m' → News h₀ L' h' ((Sg, listOf vs' kk') :: (Al, listOf als.toArray 0) :: (D, listOf us.toArray 0) :: own) → (∃ us', vs'.toList = vs.toList ++ us' ∧ StrsAre us' ((dgP x n k).map one)) →
      m' (Str.ofString "row") = some (.str x t) → m' (Str.ofString "number") = some (.int n tn) → m' (Str.ofString "nothings") = some (.ref D) → m' (Str.ofString "alphabets") = some (.ref Al) → m' (Str.ofString "signs") = some (.ref Sg) → Q .next { s with heap := h', toks := tk }) :
    wpAny (model prog w) ((ktrTop dp un gd cn cs L ad ccd cl outer).deeper (envOf (Str.ofString "_law_disguised") (dS 29) L' 132 (.ref 131))) (execs dgBody (envOf (Str.ofString "_law_disguised") (dS 29) L' 132 (.ref 131))) Q E s := by
  rw [dgBody_eq]
  refine wpAny_execs_cons (dg_s0 F N hk0 hk1 hn hpy m2 m6 ?_)
  rintro hA tkA mA FA NA ⟨uA, eA⟩ kA
  refine wpAny_execs_cons (dg_s1 FA NA eA ?_)
  rintro hB tkB mB FB NB ⟨uB, eB⟩ kB
  refine wpAny_execs_cons (dg_s2 FB NB ((kB _ (by decide)).trans eA) ?_)
  rintro hC tkC mC FC NC ⟨uC, eC⟩ kC
  have keep3 : ∀ y, y ≠ Str.ofString "turn" → y ≠ Str.ofString "form" → y ≠ Str.ofString "gap" → mC y = m y := fun y a b c => (kC y c).trans ((kB y b).trans (kA y a))
  refine wpAny_execs_cons (dg_s3 X T FC NC hx hk0 hk1 ((keep3 _ (by decide) (by decide) (by decide)).trans m1) ((keep3 _ (by decide) (by decide) (by decide)).trans m6) ?_)
  rintro hD tkD mD FD ND ⟨uD, eD⟩ kD
  have ND2 := news_re (l' := (Al, listOf als.toArray 0) :: (Sg, listOf vs kk) :: (D, listOf us.toArray 0) :: own) ND (by simp; exact fun a b h => .inr (.inr (.inr h)))
  refine wpAny_execs_cons (dg_s4 FD ND2 hals (Int.fmod_nonneg_of_pos _ (by decide)) (Int.fmod_lt_of_pos _ (by decide)) eD ((kD _ (by decide)).trans ((kC _ (by decide)).trans eB)) ((kD _ (by decide)).trans ((keep3 _ (by decide) (by decide) (by decide)).trans m4)) ?_)
  rintro hE tkE mE FE NE ⟨uE, eE⟩ kE
  have NE2 := news_re (l' := (Sg, listOf vs kk) :: (Al, listOf als.toArray 0) :: (D, listOf us.toArray 0) :: own) NE (by simp; exact fun a b h => .inr (.inr (.inr h)))
  have keep5 : ∀ y, y ≠ Str.ofString "turn" → y ≠ Str.ofString "form" → y ≠ Str.ofString "gap" → y ≠ Str.ofString "code" → mE y = m y := fun y a b c d => (kE y d).trans ((kD y d).trans (keep3 y a b c))
  have o4 : OwnOff ((Al, listOf als.toArray 0) :: (D, listOf us.toArray 0) :: own) [Sg] := fun p hp b hb => by
    rw [List.mem_singleton.mp hb]
    rcases List.mem_cons.mp hp with h | h
    · rw [h]; exact o1
    · rcases List.mem_cons.mp h with h | h
      · rw [h]; exact o2
      · exact o3 p h _ (List.mem_singleton.mpr rfl)
  have hcb := dgC_bound (c := ((x.cps.getD k.toNat 0 : Nat) : Int)) (f := (dgTn n k).fmod 12) (by omega) (by omega)
  refine wpAny_execs_cons (dg_app X T FE NE2 o4 (by omega) hcb.1 hcb.2 eE ((keep5 _ (by decide) (by decide) (by decide) (by decide)).trans m5) ?_)
  intro hG tkG uG FG NG
  have NG2 := news_re (l' := (Sg, listOf (vs.push (.str (one (dgC ((x.cps.getD k.toNat 0 : Nat) : Int) ((dgTn n k).fmod 12)).toNat) uG)) (kk + 1)) :: (D, listOf us.toArray 0) :: (Al, listOf als.toArray 0) :: own) NG (by simp; exact fun a b h => .inr (.inr (.inr h)))
  have o5 : OwnOff ((Al, listOf als.toArray 0) :: own) [Sg] := fun p hp b hb => o4 p (by rcases List.mem_cons.mp hp with h | h <;> simp [h]) b hb
  refine wpAny_execs_cons (dg_gap X T FG NG2 o2 o5 (by rw [Array.size_push]; omega) hus (Int.fmod_nonneg_of_pos _ (by decide)) (Int.fmod_lt_of_pos _ (by decide)) ((kE _ (by decide)).trans ((kD _ (by decide)).trans eC)) ((keep5 _ (by decide) (by decide) (by decide) (by decide)).trans m5) ((keep5 _ (by decide) (by decide) (by decide) (by decide)).trans m3) ?_)
  rintro hH tkH vsH kkH FH NH ⟨us', e1, e2⟩
  refine wpAny_execs_nil (h hH tkH mE vsH kkH FH (news_re NH (by simp; exact fun a b h => .inr (.inr (.inr h)))) ⟨.str (one (dgC ((x.cps.getD k.toNat 0 : Nat) : Int) ((dgTn n k).fmod 12)).toNat) uG :: us', ?_, ?_⟩ ?_ ?_ ?_ ?_ ?_)
  · rw [e1, Array.toList_push, List.append_assoc]; rfl
  · exact .cons _ _ e2
  · exact (keep5 _ (by decide) (by decide) (by decide) (by decide)).trans m1
  · exact (keep5 _ (by decide) (by decide) (by decide) (by decide)).trans m2
  · exact (keep5 _ (by decide) (by decide) (by decide) (by decide)).trans m3
  · exact (keep5 _ (by decide) (by decide) (by decide) (by decide)).trans m4
  · exact (keep5 _ (by decide) (by decide) (by decide) (by decide)).trans m5
end
end

section
local macro_rules | `(tactic| walk_at "con enter") => `(tactic| (refine wpAny_call ?_; k_dflt (refine' code_defG (news := []) ?k1 ?k2 ?k3 ?k4 ?k5 ?kA ?kF ?kK ?k6 ?k7 ?k8 ?k9 ?kB ?_ ?c2 ?c3 ?c4 ?c5; (case kA => exact rfl); (case kF => exact rfl); (case kK => assumption); (case k1 => k_asm); (case k2 => k_asm); (case k3 => k_asm); (case k4 => exact News.nil); (case k5 => k_asm); (case k6 => k_is); (case k7 => k_is); (case k8 => ktr_room); (case k9 => exact BindsTo.of_eq rfl); (case c5 => decide); (case kB => exact locs rfl); (case c2 => exact rfl); (case c3 => exact rfl); (case c4 => exact rfl); k_whole; intro g' L' h' FG' F' N' B' X' T' GS'; (try dsimp only); (try k_fold))))
local macro_rules | `(tactic| walk_at "con enterP") => `(tactic| (refine wpAny_call ?_; k_dflt (refine' enter_plain ?k1 ?k2 ?k3 ?k5 ?kA ?kF ?kK ?k6 ?k7 ?k8 ?k9 ?kB ?_ ?c2 ?c3 ?c4 ?c5; (case kA => exact rfl); (case kF => exact rfl); (case kK => assumption); (case k1 => k_asm); (case k2 => k_asm); (case k3 => k_asm); (case k5 => k_asm); (case k6 => k_is); (case k7 => k_is); (case k8 => ktr_room); (case k9 => exact BindsTo.of_eq rfl); (case c5 => decide); (case kB => exact locs rfl); (case c2 => exact rfl); (case c3 => exact rfl); (case c4 => exact rfl); k_whole; intro g' L' h' tk' m' hm' FG' F' N' B' X' T' GS')))
noncomputable def dgL (x : Str) (n : Int) (i : Nat) : List Nat := (List.range i).flatMap fun (j : Nat) => dgP x n (j : Int)
theorem dgP_len (x : Str) (n k : Int) : (dgP x n k).length ≤ 2 := by
  unfold dgP dgG; split <;> simp
theorem dgL_succ (x : Str) (n : Int) (i : Nat) : dgL x n (i + 1) = dgL x n i ++ dgP x n (i : Int) := by
  simp [dgL, List.range_succ, List.flatMap_append]
theorem dgL_len (x : Str) (n : Int) : ∀ i : Nat, (dgL x n i).length ≤ 2 * i
  | 0 => by simp [dgL]
  | i + 1 => by rw [dgL_succ, List.length_append]; have := dgL_len x n i; have := dgP_len x n (i : Int); omega
noncomputable def DgJ (x : Str) (n : Int) (t t2 : Tok) (Sg Al D : Addr) (als us : List Value) (i : Nat) (m₁ : Str → Option Value) (nx : List (Addr × Obj)) : Prop :=
  m₁ (Str.ofString "row") = some (.str x t) ∧ m₁ (Str.ofString "number") = some (.int n t2) ∧ m₁ (Str.ofString "nothings") = some (.ref D) ∧ m₁ (Str.ofString "alphabets") = some (.ref Al) ∧ m₁ (Str.ofString "signs") = some (.ref Sg) ∧
  ∃ vs kk, StrsAre (Array.toList vs) ((dgL x n i).map one) ∧ nx = [(Sg, listOf vs kk), (Al, listOf als.toArray 0), (D, listOf us.toArray 0)]
theorem py_ok {n : Int} {k : Nat} (hk : k < 10) : Builtin.divisionGoesByPylong n (1000 ^ k) = false := by
  refine PyProof.noPylong_of_log2 ?_
  revert k; decide +kernel
section
variable {prog : Program} {w : World} {mean : ExcName → Option Value} {mg mb : Str → Option Value} {dp un : Nat} {gd : Option (List Code)} {cn : Str} {cs : Scope} {ad : Addr} {ccd : Value} {cl : List (Str × Addr)} {outer : List Env} {base h₀ : Heap} {L L' : Addr} {s : Shared} {Q : Flow → Shared → Prop} {E : Value → Shared → Prop} {m : Str → Option Value} {news own : List (Addr × Obj)}
theorem dg_loop {x : Str} {n : Int} {t tn t₀ u₀ v₀ : Tok} {Sg Al D Z r : Addr} {oZ : Obj} {als us : List Value} (hr : IsRange s.heap r 0 (x.length : Nat) 1 t₀ u₀ v₀) (F : Fr h₀ L' s.heap m) (N : News h₀ L' s.heap [(Sg, listOf #[] 0), (Al, listOf als.toArray 0), (D, listOf us.toArray 0), (Z, oZ)])
    (T : Top qB (looseW qB looseB) mean mg mb h₀) (X : (kF w.params).In h₀) (ol : Al < Sg ∧ D < Sg ∧ Z < Sg) (hus : IntsAre us nthL) (hals : IntsAre als [0, 1, 2, 4, 7, 8, 9, 10, 11, 12]) (hx : x.length = 10) (hn : 0 ≤ n) (hc : ∀ j, j < 10 → x.cps.getD j 0 < 128)
    (m1 : m (Str.ofString "row") = some (.str x t)) (m2 : m (Str.ofString "number") = some (.int n tn)) (m3 : m (Str.ofString "nothings") = some (.ref D)) (m4 : m (Str.ofString "alphabets") = some (.ref Al)) (m5 : m (Str.ofString "signs") = some (.ref Sg))
    (h : ∀ h' tk m' vs' kk', Fr h₀ L' h' m' → News h₀ L' h' [(Sg, listOf vs' kk')] → StrsAre (Array.toList vs') ((dgL x n 10).map one) → m' (Str.ofString "signs") = some (.ref Sg) → Q .next { s with heap := h', toks := tk }) :
    wpAny (model prog w) ((ktrTop dp un gd cn cs L ad ccd cl outer).deeper (envOf (Str.ofString "_law_disguised") (dS 29) L' 132 (.ref 131))) (pyIter (.ref r)) (fun it s₂ => LoopAtV prog w ((ktrTop dp un gd cn cs L ad ccd cl outer).deeper (envOf (Str.ofString "_law_disguised") (dS 29) L' 132 (.ref 131))) h₀ (envOf (Str.ofString "_law_disguised") (dS 29) L' 132 (.ref 131)) (Str.ofString "k") dgBody Q E it s₂) E s := by
  rw [hx] at hr
  refine kpr_invN (DgJ x n t tn Sg Al D als us) rfl hr (by decide) (n := 10) (by rfl) F (news := [(Sg, listOf #[] 0), (Al, listOf als.toArray 0), (D, listOf us.toArray 0)]) (news_re N (by simp)) ⟨m1, m2, m3, m4, m5, #[], 0, .nil, rfl⟩ ?_ ?_
  · intro i k tt m₁ nx h2 tk2 own hi hown hJ F₁ N₁
    obtain ⟨e1, e2, e3, e4, e5, vs, kk, hvs, rfl⟩ := hJ
    have hi' : i < 10 ∧ (i : Int) = k := by
      have h9 := (List.getElem?_eq_some_iff.mp hi).1
      rw [rangeKs_length] at h9
      refine ⟨h9, ?_⟩
      simp [rangeKs, h9] at hi
      exact hi
    obtain ⟨hi1, rfl⟩ := hi'
    have hl := hvs.length
    rw [List.length_map, Array.length_toList] at hl
    have hl2 := dgL_len x n i
    refine dg_turn (k := (i : Int)) F₁ N₁ T X (Nat.ne_of_lt ol.1) (Nat.ne_of_lt ol.2.1) (fun p hp b hb => by rw [List.mem_singleton.mp hb]; exact hown p hp _ (by simp)) (by omega) hus hals hx (by omega) (by omega) hn (hc _ (by omega)) (py_ok (by omega)) ((if_neg (by decide)).trans e1) ((if_neg (by decide)).trans e2) ((if_neg (by decide)).trans e3) ((if_neg (by decide)).trans e4) ((if_neg (by decide)).trans e5) (if_pos rfl) ?_
    rintro h' tk m' vs' kk' F' N' ⟨us', g1, g2⟩ f1 f2 f3 f4 f5
    refine InvEndN.intro F' N' (nx := [(Sg, listOf vs' kk'), (Al, listOf als.toArray 0), (D, listOf us.toArray 0)]) ⟨f1, f2, f3, f4, f5, vs', kk', ?_, rfl⟩ rfl (by simp) (by simp; exact fun a b h => .inr (.inr (.inr h)))
    rw [g1, dgL_succ, List.map_append]
    exact hvs.append' g2
  · intro m₁ nx h2 tk2 hJ F₁ N₁
    obtain ⟨e1, e2, e3, e4, e5, vs, kk, hvs, rfl⟩ := hJ
    exact h _ _ _ vs kk F₁ (news_re N₁ (by simp)) hvs e5
theorem con_disg {x : Str} (hx : x.length = 10) (hc : ∀ j, j < 10 → x.cps.getD j 0 < 128) {n : Int} (hn : 0 ≤ n) (t t2 : Tok) : Con prog w mean mg mb 10 132 [.str x t, .int n t2] (fun t' => .str ⟨(dgL x n 10).toArray⟩ t') := by
  intro dp un gd cn cs a ccd cl outer A₀ base h₀ L m s Q E B F X T hk hd hu hret
  walk_at "con enterP"
  rename Kp _ _ => GS'
  rename ∀ y, _ = _ => hm'
  have e1 := (hm' (Str.ofString "row")).trans (by rfl : _ = some (Value.str x t))
  have e2 := (hm' (Str.ofString "number")).trans (by rfl : _ = some (Value.int n t2))
  rename Fr _ _ _ _ => F'
  rw [map2 e1 e2] at F'
  clear e1 e2 hm'
  (try k_fold)
  (try dsimp only)
  k_steps
  rename CarriedAll _ _ => hcar
  refine kmk_add_ints (vs := [_, _, _, _, _, _, _, _, _, _, _]) (ns := [173, 847, 6150, 6155, 6156, 6157, 8203, 8204, 8205, 8288, 65279]) (by k_asm) (by k_asm) (News.isList (by k_asm) (by k_mem)) (by assumption) (by repeat constructor) (IntsAre.ofCarried hcar) ?_ (by decide +kernel)
  intro D us hD FD ND lD hI
  have hI2 : IntsAre us nthL := by
    have e : ([173, 847, 6150, 6155, 6156, 6157, 8203, 8204, 8205, 8288, 65279] ++ rangeInts 65024 1 ((65040 : Int) - 65024).toNat : List Int) = nthL := by decide +kernel
    rw [e] at hI; exact hI
  clear hI hcar
  iterate 51 (first | walk1 | (dsimp only; walk1))
  (try dsimp only)
  refine dg_loop (x := x) (n := n) (t := t) (tn := t2) (by assumption) (by k_asm) (by k_asm) (by k_asm) (by k_asm) (by assumption) hI2 (by repeat constructor) hx hn hc rfl rfl rfl rfl rfl ?_
  intro h5 tk5 m5 vs5 kk5 F5 N5 hvs e5
  rw [map1 e5] at F5
  k_steps
  refine join_list (News.isList (by k_asm) (by k_mem)) hvs ?_ ?_
  · have h9 : ((dgL x n 10).map one).map (·.length) = (dgL x n 10).map fun _ => 1 := by rw [List.map_map]; rfl
    have h8 := dgL_len x n 10
    rw [h9, ofString_nil]
    rw [List.map_const']; simp [Str.length]; omega
  · intro t8 k8
    rw [ofString_nil, join_nil, flat_one]
    k_steps
    exact hret _ _ _ (by k_asm) (fun b o e => Fr.keep (by k_asm) b o (GS' b o e))
end
end

section
/-! comprehensions: over a text; turn by turn with what stays -/
open PySem.Spec PySem.Calls PyProof.Rows.LCg PyProof.Rows.LCt
section
variable {prog : Program} {w : World} {A : Around} {E : Value → Shared → Prop} {s : Shared} {h₀ : Heap} {L : Addr} {m : Str → Option Value} {env : Env}
theorem str_st {I : Addr} {ty : String} {x : Str} {t : Tok} : ∀ i (h h' : Heap) (o : Obj) (nw : List (Addr × Obj)), h.IsStrIter I ty x t i → h.get? I = some o → h'.get? I = some o → (∀ b o, h₀.get? b = some o → h'.get? b = some o) → News h₀ L h' nw → True → h'.IsStrIter I ty x t i :=
  fun i h h' o nw st e e' _ _ _ => by obtain ⟨o', q, r⟩ := st; rw [e] at q; cases q; exact ⟨o, e', r⟩
theorem ListComp_S {elt iter : Expr} {x : Str} {px : Pos} {scope : Scope} {cl : List (Str × Addr)} {pos : Pos} {Q : Value → Shared → Prop}
    (hclos : closureFor scope env = pure cl) (hcell : ∀ y ∈ scope.names, y.2 ≠ .cell) (hkind : scope.kind = .function)
    (hnames : ∀ y ∈ scope.names, y.2 = .local → scope.names.lookup y.1 = some .local) (hx : scope.names.lookup x = some .local)
    (h : wpAny (model prog w) A (eval iter env) (fun xv s₁ => ∃ y t news, xv = .str y t ∧ A.handled = none ∧ Fr h₀ L s₁.heap m ∧ News h₀ L s₁.heap news ∧ y.cps.size ≤ sizeLine ∧
      ∀ g, CompRest prog w A h₀ L m env elt x scope cl { s₁ with heap := g } (fun _ => True) (SignAt y) (FinE h₀ L m { s₁ with heap := g } Q) y.cps.size 0 [] news) E s)
    (hs : ∀ x, foldedSetIterable iter env x = pure x := by intro _; rfl) :
    wpAny (model prog w) A (eval (.ListComp elt [⟨.Name x px, iter, [], 0⟩] scope pos) env) Q E s := by
  rw [eval_ListComp]
  refine wpAny_comprehension_free (use := none) rfl hs hclos hkind hnames (wpAny_mono h (fun xv s₁ h₁ => ?_) fun _ _ e => e)
  obtain ⟨y, t, news, rfl, hh, F, N, hsz, R⟩ := h₁
  have fin : ∀ (g : Heap) D C h tk m' ys news', Fr h₀ L h m → News h₀ L h ((D, lst ys) :: news') → Off1 D news' → h.Ns C m' → h₀.get? C = none → h₀.get? D = none → C ≠ L → D ≠ L → C ≠ D → (∀ p ∈ news', p.1 ≠ C) → FinE h₀ L m { s₁ with heap := g } Q ys news' →
      ∃ m', h.Ns C m' ∧ ∀ h'', Heap.SameBut C h h'' → Q (.ref D) { s₁ with heap := h'', toks := tk } := by
    intro g D C h tk m' ys news' F' N' o1 hn hC₀ hD₀ hCL hDL hCD offC fin
    refine ⟨m', hn, fun h'' hs'' => fin D h'' tk (F'.change hs'' hCL hC₀) (fun p hp => ?_) o1⟩
    refine ⟨hs''.extBut _ _ ?_ (N' p hp).1, (N' p hp).2⟩
    rcases List.mem_cons.mp hp with rfl | hp
    · exact Ne.symm hCD
    · exact offC p hp
  cases ha : y.cps.all (· < 128)
  · refine wpAny_pyIter_wide ha ?_
    refine block_U (Walks.strWide hh s₁.heap.objs.size y t) hsz (fun i h st => by obtain ⟨o, e, _⟩ := st; exact ⟨o, e⟩) str_st hcell hkind hx ⟨_, Heap.get?_push_size _ rfl, rfl, rfl⟩ (fun b hb => ?_)
      (F.keeps fun _ _ e => Heap.get?_push_of_some _ e) (N.grown fun _ _ e => Heap.get?_push_of_some _ e) (Nat.ne_of_lt F.ns.lt) (next_is_new F) (fun p hp => Nat.ne_of_lt (Heap.lt_size (N p hp).1)) trivial (R _) (fin _)
    rw [List.mem_singleton.mp hb]
    show s₁.heap.objs.size < (s₁.heap.push _).objs.size
    rw [Heap.size_push]; exact Nat.lt_succ_self _
  · refine wpAny_pyIter_ascii ha ?_
    refine block_U (Walks.strAscii hh s₁.heap.objs.size y t) hsz (fun i h st => by obtain ⟨o, e, _⟩ := st; exact ⟨o, e⟩) str_st hcell hkind hx ⟨_, Heap.get?_push_size _ rfl, rfl, rfl⟩ (fun b hb => ?_)
      (F.keeps fun _ _ e => Heap.get?_push_of_some _ e) (N.grown fun _ _ e => Heap.get?_push_of_some _ e) (Nat.ne_of_lt F.ns.lt) (next_is_new F) (fun p hp => Nat.ne_of_lt (Heap.lt_size (N p hp).1)) trivial (R _) (fin _)
    rw [List.mem_singleton.mp hb]
    show s₁.heap.objs.size < (s₁.heap.push _).objs.size
    rw [Heap.size_push]; exact Nat.lt_succ_self _
/-- what a turn leaves when it makes nothing that stays -/
noncomputable def Stay (h₀ : Heap) (L : Addr) (m : Str → Option Value) (s : Shared) (news : List (Addr × Obj)) (g : Prop) (s₂ : Shared) : Prop := ∃ h' tk', s₂ = { s with heap := h', toks := tk' } ∧ Fr h₀ L h' m ∧ News h₀ L h' news ∧ g
theorem Stay.intro {g : Prop} {news all : List (Addr × Obj)} {h' : Heap} {tk' : Nat} (F : Fr h₀ L h' m) (N : News h₀ L h' all) (sub : ∀ p ∈ news, p ∈ all) (hg : g) : Stay h₀ L m s news g { s with heap := h', toks := tk' } := ⟨h', tk', rfl, F, fun p hp => N p (sub p hp), hg⟩
theorem rest_ind {elt : Expr} {x : Str} {scope : Scope} {cl : List (Str × Addr)} {S : List (Addr × Obj) → Prop} {P : Nat → Value → Prop} {Fin : List Value → List (Addr × Obj) → Prop} {n : Nat} {news : List (Addr × Obj)} (G : Nat → List Value → Prop)
    (hS : S news) (hfin : ∀ ys, G n ys → Fin ys news)
    (turn : ∀ i ys v I oI C oC D m₂ h tk (E' : Value → Shared → Prop), i < n → G i ys → P i v → NsObj oC m₂ → m₂ x = some v → Fr h₀ L h m → News h₀ L h ((I, oI) :: (C, oC) :: (D, lst ys) :: news) → Off3 I C D news → ((@Ne Nat I C) ∧ (@Ne Nat I D) ∧ (@Ne Nat C D)) →
      wpAny (model prog w) A (eval elt (compEnvC scope cl C env)) (fun y => Stay h₀ L m { s with heap := h, toks := tk } ((I, oI) :: (C, oC) :: (D, lst ys) :: news) (G (i + 1) (ys ++ [y]))) E' { s with heap := h, toks := tk }) :
    ∀ (k i : Nat) (ys : List Value), i + k = n → G i ys → CompRest prog w A h₀ L m env elt x scope cl s S P Fin k i ys news
  | 0, i, ys, e, hG => by obtain rfl : i = n := by omega
                          exact hfin ys hG
  | k + 1, i, ys, e, hG => by
    refine CompRest.succ ?_
    intro v I oI C oC D m₂ h tk E' hv hC hx F N off ne
    refine wpAny_mono (turn i ys v I oI C oC D m₂ h tk E' (by omega) hG hv hC hx F N off ne) (fun y s₂ h₂ => ?_) fun _ _ e => e
    obtain ⟨h', tk', rfl, F', N', hG'⟩ := h₂
    exact ⟨h', tk', news, rfl, F', N', off, hS, rest_ind G hS hfin turn k (i + 1) _ (by omega) hG'⟩
theorem restT_ind {ct elt : Expr} {x : Str} {scope : Scope} {cl : List (Str × Addr)} {S : List (Addr × Obj) → Prop} {P : Nat → Value → Prop} {Fin : List Value → List (Addr × Obj) → Prop} {n : Nat} {news : List (Addr × Obj)} (G : Nat → List Value → Prop)
    (hS : S news) (hfin : ∀ ys, G n ys → Fin ys news)
    (turn : ∀ i ys v I oI C oC D m₂ h tk (E' : Value → Shared → Prop), i < n → G i ys → P i v → NsObj oC m₂ → m₂ x = some v → Fr h₀ L h m → News h₀ L h ((I, oI) :: (C, oC) :: (D, lst ys) :: news) → Off3 I C D news → ((@Ne Nat I C) ∧ (@Ne Nat I D) ∧ (@Ne Nat C D)) →
      wpAny (model prog w) A (isTrue ct (compEnvC scope cl C env) (eval ct (compEnvC scope cl C env))) (fun ok s' => if ok = true then
        wpAny (model prog w) A (eval elt (compEnvC scope cl C env)) (fun y => Stay h₀ L m { s with heap := h, toks := tk } ((I, oI) :: (C, oC) :: (D, lst ys) :: news) (G (i + 1) (ys ++ [y]))) E' s'
        else Stay h₀ L m { s with heap := h, toks := tk } ((I, oI) :: (C, oC) :: (D, lst ys) :: news) (G (i + 1) ys) s') E' { s with heap := h, toks := tk }) :
    ∀ (k i : Nat) (ys : List Value), i + k = n → G i ys → CompRestT prog w A h₀ L m env ct elt x scope cl s S P Fin k i ys news
  | 0, i, ys, e, hG => by obtain rfl : i = n := by omega
                          exact hfin ys hG
  | k + 1, i, ys, e, hG => by
    refine CompRestT.succ ?_
    intro v I oI C oC D m₂ h tk E' hv hC hx F N off ne
    refine wpAny_mono (turn i ys v I oI C oC D m₂ h tk E' (by omega) hG hv hC hx F N off ne) (fun ok s₂ h₂ => ?_) fun _ _ e => e
    cases ok with
    | true =>
      simp only [if_true] at h₂ ⊢
      refine wpAny_mono h₂ (fun y s₃ h₃ => ?_) fun _ _ e => e
      obtain ⟨h', tk', rfl, F', N', hG'⟩ := h₃
      exact ⟨h', tk', news, rfl, F', N', off, hS, restT_ind G hS hfin turn k (i + 1) _ (by omega) hG'⟩
    | false =>
      simp only [Bool.false_eq_true, if_false] at h₂ ⊢
      obtain ⟨h', tk', rfl, F', N', hG'⟩ := h₂
      exact ⟨h', tk', news, rfl, F', N', off, hS, restT_ind G hS hfin turn k (i + 1) _ (by omega) hG'⟩
end
end

section
local macro_rules | `(tactic| walk_at "con enter") => `(tactic| (refine wpAny_call ?_; k_dflt (refine' code_defG (news := []) ?k1 ?k2 ?k3 ?k4 ?k5 ?kA ?kF ?kK ?k6 ?k7 ?k8 ?k9 ?kB ?_ ?c2 ?c3 ?c4 ?c5; (case kA => exact rfl); (case kF => exact rfl); (case kK => assumption); (case k1 => k_asm); (case k2 => k_asm); (case k3 => k_asm); (case k4 => exact News.nil); (case k5 => k_asm); (case k6 => k_is); (case k7 => k_is); (case k8 => ktr_room); (case k9 => exact BindsTo.of_eq rfl); (case c5 => decide); (case kB => exact locs rfl); (case c2 => exact rfl); (case c3 => exact rfl); (case c4 => exact rfl); k_whole; intro g' L' h' FG' F' N' B' X' T' GS'; (try dsimp only); (try k_fold))))
local macro_rules | `(tactic| walk_at "con enterC32") => `(tactic| (refine wpAny_call ?_; k_dflt (refine' enter_cells (scope := sc32) ?k1 ?k2 ?k3 ?k5 ?kA ?kF ?kK ?k6 ?k7 ?k8 ?k9 ?kB ?kD ?_ ?c2 ?c3 ?c4; (case kA => exact rfl); (case kF => exact rfl); (case kK => assumption); (case k1 => k_asm); (case k2 => k_asm); (case k3 => k_asm); (case k5 => k_asm); (case k6 => k_is); (case k7 => k_is); (case k8 => ktr_room); (case k9 => exact BindsTo.of_eq rfl); (case kB => exact rfl); (case kD => decide +kernel); (case c2 => exact rfl); (case c3 => exact rfl); (case c4 => exact rfl); k_whole; intro g' L' h' tk' cells' FG' F' N' Y' B' X' T' GS'; k_cells Y'; (try simp only [List.cons_append, List.nil_append] at N'); (try dsimp only); (try k_lift B'); (try k_fold))))
local macro_rules | `(tactic| walk_at "con enterC30") => `(tactic| (refine wpAny_call ?_; k_dflt (refine' enter_cells (scope := sc30) ?k1 ?k2 ?k3 ?k5 ?kA ?kF ?kK ?k6 ?k7 ?k8 ?k9 ?kB ?kD ?_ ?c2 ?c3 ?c4; (case kA => exact rfl); (case kF => exact rfl); (case kK => assumption); (case k1 => k_asm); (case k2 => k_asm); (case k3 => k_asm); (case k5 => k_asm); (case k6 => k_is); (case k7 => k_is); (case k8 => ktr_room); (case k9 => exact BindsTo.of_eq rfl); (case kB => exact rfl); (case kD => decide +kernel); (case c2 => exact rfl); (case c3 => exact rfl); (case c4 => exact rfl); k_whole; intro g' L' h' tk' cells' FG' F' N' Y' B' X' T' GS'; k_cells Y'; (try simp only [List.cons_append, List.nil_append] at N'); (try dsimp only); (try k_lift B'); (try k_fold))))
noncomputable def prS0 : Stmt := match (dB 30)[0]? with | some x => x | _ => default
noncomputable def prS1 : Stmt := match (dB 30)[1]? with | some x => x | _ => default
noncomputable def prS2 : Stmt := match (dB 30)[2]? with | some x => x | _ => default
theorem prB_eq : dB 30 = [prS0, prS1, prS2] := by rfl
noncomputable def boolsL (l : List Nat) : List Value := l.map fun (c : Nat) => Value.bool (b1S (c : Int))
theorem boolsL_take {l : List Nat} {i c : Nat} (h : l[i]? = some c) : boolsL (l.take (i + 1)) = boolsL (l.take i) ++ [Value.bool (b1S (c : Int))] := by
  rw [List.take_add_one, h]; simp [boolsL]
theorem rg_small {n : Nat} (h : n ≤ 20) : Builtin.Range.small 0 (n : Int) 1 = true ∧ Builtin.Range.rangeSize 0 (n : Int) 1 = (n : Int) := by
  revert n; decide +kernel
theorem char_at {l : List Nat} {i c : Nat} (h : l[i]? = some c) : (Txt.charAt ⟨l.toArray⟩ (0 + (i : Int))).getD 0 = c := by
  have hi := (List.getElem?_eq_some_iff.mp h).1
  have e : Txt.item ⟨l.toArray⟩ (0 + (i : Int)) = ⟨#[(⟨l.toArray⟩ : Str).cps.getD i 0]⟩ := item_at (by omega) (by show _ < ((l.length : Nat) : Int); omega) (by omega)
  have e2 : (#[(Txt.charAt ⟨l.toArray⟩ (0 + (i : Int))).getD 0] : Array Nat) = #[(⟨l.toArray⟩ : Str).cps.getD i 0] := congrArg Str.cps e
  have e3 : (Txt.charAt ⟨l.toArray⟩ (0 + (i : Int))).getD 0 = (⟨l.toArray⟩ : Str).cps.getD i 0 := by simpa using e2
  rw [e3]
  have e4 := (List.getElem?_eq_some_iff.mp h).2
  simp [Array.getD, hi, e4]
theorem StrsAre_take {l : List Nat} {i c : Nat} {ys : List Value} {g : Nat → Bool} (h : l[i]? = some c) (hys : StrsAre ys (((l.take i).filter g).map b3T)) :
    (if g c then ∀ t, StrsAre (ys ++ [Value.str (b3T c) t]) (((l.take (i + 1)).filter g).map b3T) else StrsAre ys (((l.take (i + 1)).filter g).map b3T)) := by
  rw [List.take_add_one, h]
  cases hg : g c with
  | true =>
    simp only [if_true]
    intro t
    rw [List.filter_append, List.map_append]
    have e : List.map b3T (List.filter g (some c).toList) = [b3T c] := by simp [hg]
    rw [e]
    exact hys.append' (.cons _ _ .nil)
  | false =>
    have e : List.filter g (some c).toList = [] := by simp [hg]
    simp only [Bool.false_eq_true, if_false]
    rw [List.filter_append, e, List.append_nil]; exact hys
section
local macro_rules | `(tactic| walk_at "call ref") => `(tactic| first | (k_here; (with_reducible show wpAny _ _ (call (Value.ref 79) _) _ _ _); k_dflt (refine' con_use (con_b1 _ _) ?k1 ?k2 ?k3 ?k4 ?k5 ?k6 ?k7 ?k8 ?_; (case k1 => k_asm); (case k2 => k_asm); (case k3 => k_asm); (case k4 => k_asm); (case k5 => k_asm); (case k6 => first | exact rfl | assumption); (case k7 => ktr_room); (case k8 => ktr_units); intro t9 h9 tk9 F9 N9 k9; (try dsimp only))) | (k_here; (with_reducible show wpAny _ _ (call (Value.ref 125) _) _ _ _); k_dflt (refine' con_use (con_b3 _ _) ?k1 ?k2 ?k3 ?k4 ?k5 ?k6 ?k7 ?k8 ?_; (case k1 => k_asm); (case k2 => k_asm); (case k3 => k_asm); (case k4 => k_asm); (case k5 => k_asm); (case k6 => first | exact rfl | assumption); (case k7 => ktr_room); (case k8 => ktr_units); intro t9 h9 tk9 F9 N9 k9; (try dsimp only))))
variable {prog : Program} {w : World} {mean : ExcName → Option Value} {mg mb : Str → Option Value} {dp un : Nat} {gd : Option (List Code)} {cn : Str} {cs : Scope} {ad : Addr} {ccd : Value} {cl : List (Str × Addr)} {outer : List Env} {A₀ : Around} {base h₀ : Heap} {L L' : Addr} {s : Shared} {Q : Flow → Shared → Prop} {E : Value → Shared → Prop} {m : Str → Option Value} {news own : List (Addr × Obj)}
theorem pr_s0 {l : List Nat} {t : Tok} {o1 o2 : Obj} (hl : l.length ≤ 20) (B : Below (ktrTop dp un gd cn cs L ad ccd cl outer) base (envX cn cs L ad ccd cl :: outer) h₀) (X : (kF w.params).In h₀) (T : Top qB (looseW qB looseB) mean mg mb h₀) (hd : dp + 10 < recursionLimit) (hu : un + 100 < cLine)
    (F : Fr h₀ L' s.heap m) (N : News h₀ L' s.heap [(L' + 1 + 1, o1), (L' + 1, o2)]) (d1 : o1.data = .cell none) (d2 : o2.data = .cell (some (.str ⟨l.toArray⟩ t)))
    (h : ∀ h' tk D o1', Fr h₀ L' h' m → News h₀ L' h' [(D, LCg.lst (boolsL l)), (L' + 1 + 1, o1'), (L' + 1, o2)] → o1'.data = .cell (some (.ref D)) → (@Ne Nat (L' + 1 + 1) D) → (@Ne Nat (L' + 1) D) → Q .next { s with heap := h', toks := tk }) :
    wpAny (model prog w) ((ktrTop dp un gd cn cs L ad ccd cl outer).deeper (envOfC (Str.ofString "_law_prepared") sc30 L' 137 (.ref 136))) (exec prS0 (envOfC (Str.ofString "_law_prepared") sc30 L' 137 (.ref 136))) Q E s := by
  obtain ⟨sh, sg, sd, st, so⟩ := s
  conv in prS0 => whnf
  walk1
  refine ListComp_S (h₀ := h₀) (L := L') (m := m) (by with_unfolding_all rfl) (by decide) (by rfl) (by decide) (by rfl) ?_
  walk1
  refine ⟨_, _, _, rfl, rfl, F, N, ?_, fun g => ?_⟩
  · show l.length ≤ _
    rw [PySem.sizeLine_eq]; omega
  refine rest_ind (fun i ys => ys = boolsL (l.take i)) trivial ?_ ?_ _ 0 [] (by rw [Nat.zero_add]) rfl
  · rintro ys rfl D h2 tk2 F2 N2 off2
    have e9 : List.take (Array.size (l.toArray)) l = l := by simp
    rw [e9] at N2
    simp only [LCg.Off1, and_true] at off2
    dsimp only at F2 N2 ⊢
    k_steps
    exact h _ _ _ _ (by assumption) (by assumption) (by assumption) off2.1 off2.2
  · rintro i ys v I oI C oC D m₂ h2 tk2 E' hi rfl ⟨c, u, hc, rfl⟩ hC hx F2 N2 off ne
    simp only [LCg.Off3, and_true] at off
    k_steps
    exact Stay.intro (by assumption) (by assumption) (fun p hp => hp) (boolsL_take (by simpa using hc)).symm
theorem pr_s1 {l : List Nat} {t : Tok} {o1 o2 : Obj} {D : Addr} (hl : l.length ≤ 20) (B : Below (ktrTop dp un gd cn cs L ad ccd cl outer) base (envX cn cs L ad ccd cl :: outer) h₀) (X : (kF w.params).In h₀) (T : Top qB (looseW qB looseB) mean mg mb h₀) (hd : dp + 10 < recursionLimit) (hu : un + 100 < cLine)
    (F : Fr h₀ L' s.heap m) (N : News h₀ L' s.heap [(D, LCg.lst (boolsL l)), (L' + 1 + 1, o1), (L' + 1, o2)]) (d1 : o1.data = .cell (some (.ref D))) (d2 : o2.data = .cell (some (.str ⟨l.toArray⟩ t)))
    (n1 : @Ne Nat (L' + 1 + 1) D) (n2 : @Ne Nat (L' + 1) D)
    (h : ∀ h' tk, Fr h₀ L' h' m → News h₀ L' h' [(D, LCg.lst (boolsL l)), (L' + 1 + 1, o1), (L' + 1, o2)] → Q .next { s with heap := h', toks := tk }) :
    wpAny (model prog w) ((ktrTop dp un gd cn cs L ad ccd cl outer).deeper (envOfC (Str.ofString "_law_prepared") sc30 L' 137 (.ref 136))) (exec prS1 (envOfC (Str.ofString "_law_prepared") sc30 L' 137 (.ref 136))) Q E s := by
  obtain ⟨sh, sg, sd, st, so⟩ := s
  conv in prS1 => whnf
  iterate 2 walk1
  refine LCt.ListComp_T (F₀ := F) (by with_unfolding_all rfl) (by decide) (by rfl) (by decide) (by rfl) ?_
  walk1
  refine LCt.CompSrcT.ledger (its := (boolsL l).toArray) (k := (boolsL l).length) rfl F N (List.mem_cons_self ..) ?_ fun g => ?_
  · simp [boolsL, PySem.sizeLine_eq]; omega
  refine restT_ind (fun i ys => ys = []) (Or.inr ⟨_, List.mem_cons_self .., rfl, _, rfl⟩) ?_ ?_ _ 0 [] (by rw [Nat.zero_add]) rfl
  · rintro ys rfl D2 h2 tk2 F2 N2 off2
    dsimp only at F2 N2 ⊢
    k_steps
    exact h _ _ (by assumption) (news_re (by assumption) (by simp))
  · rintro i ys v I oI C oC D2 m₂ h2 tk2 E' hi rfl hv hC hx F2 N2 off ne
    simp only [LCg.Off3, and_true] at off
    obtain ⟨b, rfl⟩ : ∃ b, v = Value.bool b := by
      have h9 : (boolsL l)[i]? = some v := by simpa using hv
      unfold boolsL at h9
      rw [List.getElem?_map] at h9
      revert h9
      cases l[i]? with
      | none => intro h9; cases h9
      | some c => intro h9; exact ⟨_, (Option.some.inj h9).symm⟩
    k_steps
    exact Stay.intro (by assumption) (by assumption) (fun p hp => hp) trivial
theorem b3T_sum {l : List Nat} (h : ∀ c ∈ l, b1S (c : Int) = false → (b3T c).length = 1) : (((l.filter fun (c : Nat) => !b1S (c : Int))).map fun c => (b3T c).length).sum ≤ l.length := by
  induction l with
  | nil => simp
  | cons c l ih =>
    have ih := ih fun d hd => h d (List.mem_cons_of_mem _ hd)
    cases hb : b1S (c : Int) with
    | true => rw [List.filter_cons_of_neg (by simp [hb])]; rw [List.length_cons]; omega
    | false =>
      rw [List.filter_cons_of_pos (by simp [hb]), List.map_cons, List.sum_cons, h c (List.mem_cons_self ..) hb, List.length_cons]; omega
noncomputable def prL (l : List Nat) : List Nat := (l.filter fun (c : Nat) => !b1S (c : Int)).flatMap fun c => (b3T c).cps.toList
theorem prL_flat (l : List Nat) : ((l.filter fun (c : Nat) => !b1S (c : Int)).map b3T).flatMap (·.cps.toList) = prL l := by
  unfold prL; rw [List.flatMap_map]
theorem held_item {A : Around} {E : Value → Shared → Prop} {s : Shared} {value slice : PySem.Expr} {D : Addr} {l : List Nat} {i c : Nat} {u : Tok} {Q : Value → Shared → Prop} (hD : s.heap.IsList D (boolsL l).toArray) (hc : l[i]? = some c) (h : Q (.bool (b1S (c : Int))) s)
    (hs : subscripted slice false (.ref D) (.int (0 + (i : Int)) u) = operate [.ref D, .int (0 + (i : Int)) u] (getItem (.ref D) (.int (0 + (i : Int)) u)))
    (hi : i < 100) : wpAny (model prog w) A (subscriptTail value slice (.ref D) (.int (0 + (i : Int)) u)) Q E s := by
  refine tail_any hD.typeIs slot_list_getitem.lookup (wpAny_getItem_list hD (by omega) (by omega) ?_ h) hs
  have e : (0 + (i : Int)).toNat = i := by omega
  rw [e]
  simp [boolsL, hc]
theorem pr_s2 {l : List Nat} {t : Tok} {o1 o2 : Obj} {D : Addr} (hl : l.length ≤ 20) (hb3 : ∀ c ∈ l, b1S (c : Int) = false → (b3T c).length = 1) (B : Below (ktrTop dp un gd cn cs L ad ccd cl outer) base (envX cn cs L ad ccd cl :: outer) h₀) (X : (kF w.params).In h₀) (T : Top qB (looseW qB looseB) mean mg mb h₀) (hd : dp + 10 < recursionLimit) (hu : un + 100 < cLine)
    (F : Fr h₀ L' s.heap m) (N : News h₀ L' s.heap [(D, LCg.lst (boolsL l)), (L' + 1 + 1, o1), (L' + 1, o2)]) (d1 : o1.data = .cell (some (.ref D))) (d2 : o2.data = .cell (some (.str ⟨l.toArray⟩ t)))
    (n1 : @Ne Nat (L' + 1 + 1) D) (n2 : @Ne Nat (L' + 1) D)
    (h : ∀ h' tk t', Fr h₀ L' h' m → Q (.ret (.str ⟨(prL l).toArray⟩ t')) { s with heap := h', toks := tk }) :
    wpAny (model prog w) ((ktrTop dp un gd cn cs L ad ccd cl outer).deeper (envOfC (Str.ofString "_law_prepared") sc30 L' 137 (.ref 136))) (exec prS2 (envOfC (Str.ofString "_law_prepared") sc30 L' 137 (.ref 136))) Q E s := by
  obtain ⟨sh, sg, sd, st, so⟩ := s
  conv in prS2 => whnf
  have hxe : (⟨l.toArray⟩ : Str).length = l.length := rfl
  have hxl : (⟨l.toArray⟩ : Str).length ≤ 20 := hl
  iterate 6 walk1
  refine LCt.ListComp_T (F₀ := F) (by with_unfolding_all rfl) (by decide) (by rfl) (by decide) (by rfl) ?_
  iterate 13 (first | walk1 | (dsimp only; walk1))
  refine LCt.CompSrcT.range (n := l.length) rfl (by k_asm) (by k_asm) (by assumption) ?_ ?_ (by rw [PySem.sizeLine_eq]; omega) fun g => ?_
  · exact (rg_small hl).1
  · exact (rg_small hl).2
  refine restT_ind (fun i ys => StrsAre ys (((l.take i).filter fun (c : Nat) => !b1S (c : Int)).map b3T)) trivial ?_ ?_ _ 0 [] (by rw [Nat.zero_add]) .nil
  · rintro ys hys D2 h2 tk2 F2 N2 off2
    dsimp only at F2 N2 ⊢
    rw [List.take_length] at hys
    k_steps
    refine join_list (News.isList (by k_asm) (by k_mem)) hys ?_ ?_
    · rw [ofString_nil]
      have h9 := b3T_sum hb3
      have h8 := List.length_filter_le (fun (c : Nat) => !b1S (c : Int)) l
      rw [List.map_map]
      show (List.map (fun c => (b3T c).length) _).sum + _ * 0 ≤ _
      omega
    · intro t8 k8
      rw [ofString_nil, join_nil, prL_flat]
      k_steps
      exact h _ _ _ (by assumption)
  · rintro i ys v I oI C oC D2 m₂ h2 tk2 E' hi hys ⟨u, rfl⟩ hC hx F2 N2 off ne
    simp only [LCg.Off3, and_true] at off
    dsimp only at F2 N2 ⊢
    obtain ⟨c, hc⟩ : ∃ c, l[i]? = some c := ⟨l[i], List.getElem?_eq_getElem hi⟩
    have hci : (Txt.charAt ⟨l.toArray⟩ (0 + (i : Int))).getD 0 = c := char_at hc
    k_steps
    refine held_item (News.isList N2 (by k_mem)) hc ?_ (by with_unfolding_all rfl) (by omega)
    have hst := StrsAre_take (g := fun (c : Nat) => !b1S (c : Int)) hc hys
    cases hb : b1S (c : Int) with
    | true =>
      rw [hb] at hst
      k_steps
      exact Stay.intro (by assumption) (by assumption) (fun p hp => hp) hst
    | false =>
      rw [hb] at hst
      k_steps
      refine Stay.intro (by assumption) (by assumption) (fun p hp => hp) ?_
      rw [hci]; exact hst _
theorem con_prep {l : List Nat} (hl : l.length ≤ 20) (hb3 : ∀ c ∈ l, b1S (c : Int) = false → (b3T c).length = 1) (t : Tok) : Con prog w mean mg mb 14 137 [.str ⟨l.toArray⟩ t] (fun t' => .str ⟨(prL l).toArray⟩ t') := by
  intro dp un gd cn cs a ccd cl outer A₀ base h₀ L m s Q E B F X T hk hd hu hret
  walk_at "con enterC30"
  rename Kp _ _ => GS'
  rename News _ _ _ _ => N'
  rename Below _ _ _ _ => B'
  rename Fr _ _ _ _ => F'
  rename Obj.data _ = _ => d2'
  have d2 := d2'.trans (by rfl : _ = Data.cell (some (.str ⟨l.toArray⟩ t)))
  clear d2'
  revert d2
  rename Obj.data _ = _ => d1'
  have d1 := d1'.trans (by rfl : _ = Data.cell none)
  clear d1'
  intro d2
  rw [prB_eq]
  refine wpAny_execs_cons (pr_s0 hl B' (by assumption) (by assumption) (by omega) (by omega) F' N' d1 d2 ?_)
  intro h5 tk5 D o1 F5 N5 d5 n1 n2
  refine wpAny_execs_cons (pr_s1 hl B' (by assumption) (by assumption) (by omega) (by omega) F5 N5 d5 d2 n1 n2 ?_)
  intro h6 tk6 F6 N6
  refine wpAny_execs_cons (pr_s2 hl hb3 B' (by assumption) (by assumption) (by omega) (by omega) F6 N6 d5 d2 n1 n2 ?_)
  intro h7 tk7 t7 F7
  exact leaveK_ F7 News.nil fun kF kN => hret _ _ _ kF fun b o e => F7.keep b o (GS' b o e)
end
end

section
local macro_rules | `(tactic| walk_at "con enter") => `(tactic| (refine wpAny_call ?_; k_dflt (refine' code_defG (news := []) ?k1 ?k2 ?k3 ?k4 ?k5 ?kA ?kF ?kK ?k6 ?k7 ?k8 ?k9 ?kB ?_ ?c2 ?c3 ?c4 ?c5; (case kA => exact rfl); (case kF => exact rfl); (case kK => assumption); (case k1 => k_asm); (case k2 => k_asm); (case k3 => k_asm); (case k4 => exact News.nil); (case k5 => k_asm); (case k6 => k_is); (case k7 => k_is); (case k8 => ktr_room); (case k9 => exact BindsTo.of_eq rfl); (case c5 => decide); (case kB => exact locs rfl); (case c2 => exact rfl); (case c3 => exact rfl); (case c4 => exact rfl); k_whole; intro g' L' h' FG' F' N' B' X' T' GS'; (try dsimp only); (try k_fold))))
local macro_rules | `(tactic| walk_at "con enterC32") => `(tactic| (refine wpAny_call ?_; k_dflt (refine' enter_cells (scope := sc32) ?k1 ?k2 ?k3 ?k5 ?kA ?kF ?kK ?k6 ?k7 ?k8 ?k9 ?kB ?kD ?_ ?c2 ?c3 ?c4; (case kA => exact rfl); (case kF => exact rfl); (case kK => assumption); (case k1 => k_asm); (case k2 => k_asm); (case k3 => k_asm); (case k5 => k_asm); (case k6 => k_is); (case k7 => k_is); (case k8 => ktr_room); (case k9 => exact BindsTo.of_eq rfl); (case kB => exact rfl); (case kD => decide +kernel); (case c2 => exact rfl); (case c3 => exact rfl); (case c4 => exact rfl); k_whole; intro g' L' h' tk' cells' FG' F' N' Y' B' X' T' GS'; k_cells Y'; (try simp only [List.cons_append, List.nil_append] at N'); (try dsimp only); (try k_lift B'); (try k_fold))))
local macro_rules | `(tactic| walk_at "con enterC30") => `(tactic| (refine wpAny_call ?_; k_dflt (refine' enter_cells (scope := sc30) ?k1 ?k2 ?k3 ?k5 ?kA ?kF ?kK ?k6 ?k7 ?k8 ?k9 ?kB ?kD ?_ ?c2 ?c3 ?c4; (case kA => exact rfl); (case kF => exact rfl); (case kK => assumption); (case k1 => k_asm); (case k2 => k_asm); (case k3 => k_asm); (case k5 => k_asm); (case k6 => k_is); (case k7 => k_is); (case k8 => ktr_room); (case k9 => exact BindsTo.of_eq rfl); (case kB => exact rfl); (case kD => decide +kernel); (case c2 => exact rfl); (case c3 => exact rfl); (case c4 => exact rfl); k_whole; intro g' L' h' tk' cells' FG' F' N' Y' B' X' T' GS'; k_cells Y'; (try simp only [List.cons_append, List.nil_append] at N'); (try dsimp only); (try k_lift B'); (try k_fold))))
local macro_rules | `(tactic| walk_at "binaryOp Pow int int") => `(tactic| (k_here; first | (with_reducible refine pow_lit 1 ?kb0 ?kb1 ?kb2 ?kb3 ?_; (case kb0 => decide +kernel); (case kb1 => decide +kernel); (case kb2 => decide +kernel); (case kb3 => decide +kernel)) | (with_reducible refine pow_lit 2 ?kb0 ?kb1 ?kb2 ?kb3 ?_; (case kb0 => decide +kernel); (case kb1 => decide +kernel); (case kb2 => decide +kernel); (case kb3 => decide +kernel)) | (with_reducible refine pow_lit 4 ?kb0 ?kb1 ?kb2 ?kb3 ?_; (case kb0 => decide +kernel); (case kb1 => decide +kernel); (case kb2 => decide +kernel); (case kb3 => decide +kernel)) | (with_reducible refine pow_lit 8 ?kb0 ?kb1 ?kb2 ?kb3 ?_; (case kb0 => decide +kernel); (case kb1 => decide +kernel); (case kb2 => decide +kernel); (case kb3 => decide +kernel)) | (with_reducible refine pow_lit 64 ?kb0 ?kb1 ?kb2 ?kb3 ?_; (case kb0 => decide +kernel); (case kb1 => decide +kernel); (case kb2 => decide +kernel); (case kb3 => decide +kernel))))
noncomputable def lkS : Stmt := match (dB 32)[0]? with | some x => x | _ => default
theorem lkB_eq : dB 32 = [lkS] := by rfl
noncomputable def lkP (n : Int) (j : Nat) : Bool := decide ((n.fdiv (512 * 2 ^ j)).fmod 2 = 1 ∧ (n.fdiv (8 ^ j)).fmod 2 = 0)
noncomputable def lkL (n : Int) (i : Nat) : List Int := ((List.range i).filter (lkP n)).map fun (j : Nat) => (8 : Int) ^ j
theorem lkL_hit {n : Int} {i : Nat} (h : lkP n i = true) : lkL n (i + 1) = lkL n i ++ [8 ^ i] := by
  unfold lkL; rw [List.range_succ, List.filter_append, List.map_append]; simp [h]
theorem lkL_miss {n : Int} {i : Nat} (h : lkP n i = false) : lkL n (i + 1) = lkL n i := by
  unfold lkL; rw [List.range_succ, List.filter_append, List.map_append]; simp [h]
theorem lk_sum (n : Int) : (lkL n 3).sum = lackN n := by
  have e : ∀ (i : Nat) (p q : Int), p = 512 * 2 ^ i → q = 8 ^ i → lk1 n p q = if lkP n i = true then (8 : Int) ^ i else 0 := by
    intro i p q hp hq
    subst hp; subst hq
    unfold lk1 lkP
    by_cases h : (n.fdiv (512 * 2 ^ i)).fmod 2 = 1 ∧ (n.fdiv (8 ^ i)).fmod 2 = 0
    · rw [if_pos h, if_pos (decide_eq_true h)]
    · rw [if_neg h, if_neg (by rw [decide_eq_false h]; decide)]
  have s : ∀ i, (lkL n (i + 1)).sum = (lkL n i).sum + if lkP n i = true then (8 : Int) ^ i else 0 := by
    intro i
    cases h : lkP n i with
    | true => rw [lkL_hit h, List.sum_append]; simp
    | false => rw [lkL_miss h]; simp
  unfold lackN
  rw [e 0 512 1 (by decide) (by decide), e 1 1024 8 (by decide) (by decide), e 2 2048 64 (by decide) (by decide), s 2, s 1, s 0]
  have z : (lkL n 0).sum = 0 := rfl
  rw [z, Int.zero_add]
theorem ints_snoc {vs : List Value} {ns : List Int} (h : IntsAre vs ns) (n : Int) (t : Tok) : IntsAre (vs ++ [.int n t]) (ns ++ [n]) := by
  induction h with
  | nil => exact .cons _ _ .nil
  | cons a b _ ih => exact .cons _ _ ih
theorem lk_hit {n p q v : Int} {i : Nat} {ys : List Value} (h1 : (n.fdiv p).fmod 2 = 1) (h2 : (n.fdiv q).fmod 2 = 0) (hp : p = 512 * 2 ^ i) (hq : q = 8 ^ i) (hv : v = 8 ^ i) (hys : IntsAre ys (lkL n i)) (t : Tok) : IntsAre (ys ++ [.int v t]) (lkL n (i + 1)) := by
  subst hp; subst hq
  rw [lkL_hit (decide_eq_true ⟨h1, h2⟩), hv]; exact ints_snoc hys _ _
theorem lk_miss1 {n p : Int} {i : Nat} {ys : List Value} (h1 : (n.fdiv p).fmod 2 ≠ 1) (hp : p = 512 * 2 ^ i) (hys : IntsAre ys (lkL n i)) : IntsAre ys (lkL n (i + 1)) := by
  subst hp
  rw [lkL_miss (decide_eq_false fun q => h1 q.1)]; exact hys
theorem lk_miss2 {n q : Int} {i : Nat} {ys : List Value} (h2 : (n.fdiv q).fmod 2 ≠ 0) (hq : q = 8 ^ i) (hys : IntsAre ys (lkL n i)) : IntsAre ys (lkL n (i + 1)) := by
  subst hq
  rw [lkL_miss (decide_eq_false fun q => h2 q.2)]; exact hys
section
variable {prog : Program} {w : World} {mean : ExcName → Option Value} {mg mb : Str → Option Value} {dp un : Nat} {gd : Option (List Code)} {cn : Str} {cs : Scope} {ad : Addr} {ccd : Value} {cl : List (Str × Addr)} {outer : List Env} {A₀ : Around} {base h₀ : Heap} {L L' : Addr} {s : Shared} {Q : Flow → Shared → Prop} {E : Value → Shared → Prop} {m : Str → Option Value} {news own : List (Addr × Obj)}
theorem lk_s {n : Int} {t : Tok} {o1 : Obj} (X : (kF w.params).In h₀) (T : Top qB (looseW qB looseB) mean mg mb h₀)
    (F : Fr h₀ L' s.heap m) (N : News h₀ L' s.heap [(L' + 1, o1)]) (d1 : o1.data = .cell (some (.int n t)))
    (h : ∀ h' tk t', Fr h₀ L' h' m → Q (.ret (.int (lackN n) t')) { s with heap := h', toks := tk }) :
    wpAny (model prog w) ((ktrTop dp un gd cn cs L ad ccd cl outer).deeper (envOfC (Str.ofString "_law_lacking") sc32 L' 149 (.ref 148))) (exec lkS (envOfC (Str.ofString "_law_lacking") sc32 L' 149 (.ref 148))) Q E s := by
  obtain ⟨sh, sg, sd, st, so⟩ := s
  conv in lkS => whnf
  iterate 5 walk1
  refine LCt.ListComp_T (F₀ := F) (by with_unfolding_all rfl) (by decide +kernel) (by rfl) (by decide +kernel) (by rfl) ?_
  iterate 7 walk1
  dsimp only
  refine LCt.CompSrcT.range (n := 3) rfl (by k_asm) (by k_asm) (by assumption) (by decide) (by decide) (by rw [PySem.sizeLine_eq]; decide) fun g => ?_
  refine restT_ind (fun i ys => IntsAre ys (lkL n i)) trivial ?_ ?_ _ 0 [] (by rw [Nat.zero_add]) .nil
  · rintro ys hys D2 h2 tk2 F2 N2 off2
    dsimp only at F2 N2 ⊢
    k_steps
    rw [lk_sum]
    exact h _ _ _ (by assumption)
  · rintro i ys v I oI C oC D2 m₂ h2 tk2 E' hi hys ⟨u, rfl⟩ hC hx F2 N2 off ne
    simp only [LCg.Off3, and_true] at off
    dsimp only at F2 N2 ⊢
    match i, hi with
    | 0, _ =>
      k_steps
      all_goals first
        | exact Stay.intro (by assumption) (by assumption) (fun p hp => hp) (lk_hit (i := 0) (by assumption) (by assumption) (by decide) (by decide) (by decide) hys _)
        | exact Stay.intro (by assumption) (by assumption) (fun p hp => hp) (lk_miss1 (i := 0) (by assumption) (by decide) hys)
        | exact Stay.intro (by assumption) (by assumption) (fun p hp => hp) (lk_miss2 (i := 0) (by assumption) (by decide) hys)
    | 1, _ =>
      k_steps
      all_goals first
        | exact Stay.intro (by assumption) (by assumption) (fun p hp => hp) (lk_hit (i := 1) (by assumption) (by assumption) (by decide) (by decide) (by decide) hys _)
        | exact Stay.intro (by assumption) (by assumption) (fun p hp => hp) (lk_miss1 (i := 1) (by assumption) (by decide) hys)
        | exact Stay.intro (by assumption) (by assumption) (fun p hp => hp) (lk_miss2 (i := 1) (by assumption) (by decide) hys)
    | 2, _ =>
      k_steps
      all_goals first
        | exact Stay.intro (by assumption) (by assumption) (fun p hp => hp) (lk_hit (i := 2) (by assumption) (by assumption) (by decide) (by decide) (by decide) hys _)
        | exact Stay.intro (by assumption) (by assumption) (fun p hp => hp) (lk_miss1 (i := 2) (by assumption) (by decide) hys)
        | exact Stay.intro (by assumption) (by assumption) (fun p hp => hp) (lk_miss2 (i := 2) (by assumption) (by decide) hys)
theorem con_lack (n : Int) (t : Tok) : Con prog w mean mg mb 10 149 [.int n t] (fun t' => .int (lackN n) t') := by
  intro dp un gd cn cs a ccd cl outer A₀ base h₀ L m s Q E B F X T hk hd hu hret
  walk_at "con enterC32"
  rename Kp _ _ => GS'
  rename News _ _ _ _ => N'
  rename Fr _ _ _ _ => F'
  rename Obj.data _ = _ => d1'
  have d1 := d1'.trans (by rfl : _ = Data.cell (some (.int n t)))
  clear d1'
  rw [lkB_eq]
  refine wpAny_execs_cons (lk_s (by assumption) (by assumption) F' N' d1 ?_)
  intro h7 tk7 t7 F7
  exact leaveK_ F7 News.nil fun kF kN => hret _ _ _ kF fun b o e => F7.keep b o (GS' b o e)
end
end

section
/-! the plain law -/
noncomputable def rdC (a : Int) : Nat := if a / 4 % 2 = 1 then 114 else 45
noncomputable def wdC (a : Int) : Nat := if a / 2 % 2 = 1 then 119 else 45
noncomputable def xdC (l : Nat) (u a : Int) : Nat := if a % 2 = 1 then (if u % 2 = 1 then l else 120) else (if u % 2 = 1 then l - 32 else 45)
noncomputable def lxC (l : Nat) (u a : Int) : Nat := if u % 2 = 1 then l else if a % 2 = 1 then 120 else 45
noncomputable def tyC (t : Int) : Nat := if t = 10 then 108 else if t = 12 then 115 else if t = 8 then 45 else if t = 6 then 98 else if t = 4 then 100 else if t = 2 then 99 else if t = 1 then 112 else 63
theorem and_pow (x m : Int) : ∀ k : Nat, Builtin.bitAnd x (2 ^ k * m) = 2 ^ k * Builtin.bitAnd (x / 2 ^ k) m
  | 0 => by simp
  | k + 1 => by
    have h1 : (2 : Int) ^ (k + 1) * m = 2 * (2 ^ k * m) := by rw [Int.pow_succ, Int.mul_comm (2 ^ k) 2, Int.mul_assoc]
    have h2 : (2 * ((2 : Int) ^ k * m)) / 2 = 2 ^ k * m := by omega
    have h3 : ¬ (x % 2 = 1 ∧ (2 * ((2 : Int) ^ k * m)) % 2 = 1) := by omega
    have h4 : (2 : Int) ^ (k + 1) = 2 * 2 ^ k := by rw [Int.pow_succ, Int.mul_comm]
    rw [h1, kbt_halves, h2, and_pow (x / 2) m k, if_neg h3, h4, Int.mul_assoc, Int.ediv_ediv_of_nonneg (by decide)]
    omega
theorem and_ty (x : Int) : Builtin.bitAnd x 61440 = 4096 * (x / 4096 % 16) := by
  have h := and_pow x 15 12
  rw [bitAnd_m4] at h
  exact h
theorem and_33 (y : Int) : Builtin.bitAnd y 33 = 2 * ((y / 2 / 16 % 2) * 16) + (if y % 2 = 1 then 1 else 0) := by
  have h := kbt_halves y 33
  have h2 := kbt_bit (y / 2) 4
  have e : (33 : Int) / 2 = 2 ^ 4 := by decide
  rw [e, h2] at h
  rw [h]
  by_cases hy : y % 2 = 1
  · rw [if_pos ⟨hy, by decide⟩, if_pos hy]; rfl
  · rw [if_neg (fun q => hy q.1), if_neg hy]; rfl
theorem and_129 (y : Int) : Builtin.bitAnd y 129 = 2 * ((y / 2 / 64 % 2) * 64) + (if y % 2 = 1 then 1 else 0) := by
  have h := kbt_halves y 129
  have h2 := kbt_bit (y / 2) 6
  have e : (129 : Int) / 2 = 2 ^ 6 := by decide
  rw [e, h2] at h
  rw [h]
  by_cases hy : y % 2 = 1
  · rw [if_pos ⟨hy, by decide⟩, if_pos hy]; rfl
  · rw [if_neg (fun q => hy q.1), if_neg hy]; rfl
theorem and_513 (y : Int) : Builtin.bitAnd y 513 = 2 * ((y / 2 / 256 % 2) * 256) + (if y % 2 = 1 then 1 else 0) := by
  have h := kbt_halves y 513
  have h2 := kbt_bit (y / 2) 8
  have e : (513 : Int) / 2 = 2 ^ 8 := by decide
  rw [e, h2] at h
  rw [h]
  by_cases hy : y % 2 = 1
  · rw [if_pos ⟨hy, by decide⟩, if_pos hy]; rfl
  · rw [if_neg (fun q => hy q.1), if_neg hy]; rfl
theorem and_2112 (x : Int) : Builtin.bitAnd x 2112 = 64 * (2 * ((x / 64 / 2 / 16 % 2) * 16) + (if x / 64 % 2 = 1 then 1 else 0)) := by
  have h := and_pow x 33 6
  rw [and_33] at h
  exact h
theorem and_1032 (x : Int) : Builtin.bitAnd x 1032 = 8 * (2 * ((x / 8 / 2 / 64 % 2) * 64) + (if x / 8 % 2 = 1 then 1 else 0)) := by
  have h := and_pow x 129 3
  rw [and_129] at h
  exact h
theorem ite_iff {P R : Prop} [Decidable P] [Decidable R] {α : Type} {a b c d : α} (h : P ↔ R) (h1 : a = c) (h2 : b = d) : (if P then a else b) = if R then c else d := by
  subst h1; subst h2
  by_cases hp : P
  · rw [if_pos hp, if_pos (h.mp hp)]
  · rw [if_neg hp, if_neg fun q => hp (h.mpr q)]
theorem pick_1 {n : Int} {d : Nat} {r : Row} : pickC n false d [r] = if Builtin.bitAnd n r.1 = r.1 then r.2.2.1 else d := by
  simp [pickC]
theorem pick_3 {n u a : Int} {l : Nat} {r1 r2 r3 : Row} (h1 : Builtin.bitAnd n r1.1 = r1.1 ↔ (u % 2 = 1 ∧ a % 2 = 1)) (h2 : Builtin.bitAnd n r2.1 = r2.1 ↔ u % 2 = 1) (h3 : Builtin.bitAnd n r3.1 = r3.1 ↔ a % 2 = 1)
    (e1 : r1.2.2.1 = l) (e2 : r2.2.2.1 = l - 32) (e3 : r3.2.2.1 = 120) : pickC n false 45 [r1, r2, r3] = xdC l u a := by
  simp only [pickC, h1, h2, h3, e1, e2, e3, xdC]
  by_cases ha : a % 2 = 1 <;> by_cases hu : u % 2 = 1 <;> simp [ha, hu]
theorem pick_ty {n : Int} (t : Int) (h : Builtin.bitAnd n 61440 = 4096 * t) : pickC n true 63 (tabP.getD 0 []) = tyC t := by
  have e : ∀ k : Int, (4096 * t = 4096 * k) = (t = k) := fun k => propext ⟨by omega, by omega⟩
  have e10 : (4096 * t = 40960) = (t = 10) := e 10
  have e12 : (4096 * t = 49152) = (t = 12) := e 12
  have e8 : (4096 * t = 32768) = (t = 8) := e 8
  have e6 : (4096 * t = 24576) = (t = 6) := e 6
  have e4 : (4096 * t = 16384) = (t = 4) := e 4
  have e2 : (4096 * t = 8192) = (t = 2) := e 2
  have e1 : (4096 * t = 4096) = (t = 1) := e 1
  simp only [tabP, List.getD, pickC, List.getElem?_cons_zero, Option.getD_some, if_true, decide_eq_true_eq, h, tyC, e10, e12, e8, e6, e4, e2, e1]
theorem fm_form (n : Int) (h0 : 0 ≤ n) (h1 : n < 65536) : fmL n = [tyC (n / 4096), rdC (n / 64), wdC (n / 64), xdC 115 (n / 2048) (n / 64), rdC (n / 8), wdC (n / 8), xdC 115 (n / 1024) (n / 8), rdC n, wdC n, xdC 116 (n / 512) n] := by
  have b0 : Builtin.bitAnd n 1 = (n / 1 % 2) * 1 := kbt_bit n 0
  have b1 : Builtin.bitAnd n 2 = (n / 2 % 2) * 2 := kbt_bit n 1
  have b2 : Builtin.bitAnd n 4 = (n / 4 % 2) * 4 := kbt_bit n 2
  have b3 : Builtin.bitAnd n 8 = (n / 8 % 2) * 8 := kbt_bit n 3
  have b4 : Builtin.bitAnd n 16 = (n / 16 % 2) * 16 := kbt_bit n 4
  have b5 : Builtin.bitAnd n 32 = (n / 32 % 2) * 32 := kbt_bit n 5
  have b6 : Builtin.bitAnd n 64 = (n / 64 % 2) * 64 := kbt_bit n 6
  have b7 : Builtin.bitAnd n 128 = (n / 128 % 2) * 128 := kbt_bit n 7
  have b8 : Builtin.bitAnd n 256 = (n / 256 % 2) * 256 := kbt_bit n 8
  have b9 : Builtin.bitAnd n 512 = (n / 512 % 2) * 512 := kbt_bit n 9
  have b10 : Builtin.bitAnd n 1024 = (n / 1024 % 2) * 1024 := kbt_bit n 10
  have b11 : Builtin.bitAnd n 2048 = (n / 2048 % 2) * 2048 := kbt_bit n 11
  have c1 := and_2112 n
  have c2 := and_1032 n
  have c3 := and_513 n
  have c4 := and_ty n
  have e : fmL n = [fmC n 0, fmC n 1, fmC n 2, fmC n 3, fmC n 4, fmC n 5, fmC n 6, fmC n 7, fmC n 8, fmC n 9] := rfl
  have f0 : fmC n 0 = tyC (n / 4096) := by
    show pickC n true 63 _ = _
    rw [pick_ty (n / 4096) (by omega)]
  have f1 : fmC n 1 = rdC (n / 64) := pick_1.trans (ite_iff (by show Builtin.bitAnd n 256 = 256 ↔ _; omega) rfl rfl)
  have f2 : fmC n 2 = wdC (n / 64) := pick_1.trans (ite_iff (by show Builtin.bitAnd n 128 = 128 ↔ _; omega) rfl rfl)
  have f3 : fmC n 3 = xdC 115 (n / 2048) (n / 64) := pick_3 (by show Builtin.bitAnd n 2112 = 2112 ↔ _; split at c1 <;> omega) (by show Builtin.bitAnd n 2048 = 2048 ↔ _; omega) (by show Builtin.bitAnd n 64 = 64 ↔ _; omega) rfl rfl rfl
  have f4 : fmC n 4 = rdC (n / 8) := pick_1.trans (ite_iff (by show Builtin.bitAnd n 32 = 32 ↔ _; omega) rfl rfl)
  have f5 : fmC n 5 = wdC (n / 8) := pick_1.trans (ite_iff (by show Builtin.bitAnd n 16 = 16 ↔ _; omega) rfl rfl)
  have f6 : fmC n 6 = xdC 115 (n / 1024) (n / 8) := pick_3 (by show Builtin.bitAnd n 1032 = 1032 ↔ _; split at c2 <;> omega) (by show Builtin.bitAnd n 1024 = 1024 ↔ _; omega) (by show Builtin.bitAnd n 8 = 8 ↔ _; omega) rfl rfl rfl
  have f7 : fmC n 7 = rdC n := pick_1.trans (ite_iff (by show Builtin.bitAnd n 4 = 4 ↔ _; omega) rfl rfl)
  have f8 : fmC n 8 = wdC n := pick_1.trans (ite_iff (by show Builtin.bitAnd n 2 = 2 ↔ _; omega) rfl rfl)
  have f9 : fmC n 9 = xdC 116 (n / 512) n := pick_3 (by show Builtin.bitAnd n 513 = 513 ↔ _; split at c3 <;> omega) (by show Builtin.bitAnd n 512 = 512 ↔ _; omega) (by show Builtin.bitAnd n 1 = 1 ↔ _; omega) rfl rfl rfl
  rw [e, f0, f1, f2, f3, f4, f5, f6, f7, f8, f9]
end

section
noncomputable def lowC (c : Nat) : Nat := if c = 83 then 115 else if c = 84 then 116 else c
noncomputable def chL : List Nat := [63, 45, 108, 115, 98, 100, 99, 112, 114, 119, 120, 83, 116, 84]
noncomputable def ltL : List Nat := [2, 3, 4, 12, 16, 18, 19, 20, 23, 24]
noncomputable def tgtL : List (Int × Nat) := alL.flatMap fun a => ltL.map fun (j : Nat) => (119807 + 52 * a + (j : Int), 96 + j)
/-- two lists in order, gone through at once -/
noncomputable def mgB : List (Int × Str) → List (Int × Nat) → Bool
  | [], ts => ts.isEmpty
  | (k, x) :: r, ts => match ts with
    | [] => true
    | (t, v) :: ts' => if k < t then mgB r ts else decide (k = t) && decide (x = one v) && mgB r ts'
theorem mg_find : ∀ (l : List (Int × Str)) (ts : List (Int × Nat)), (l.map (·.1)).Pairwise (· < ·) → mgB l ts = true → ∀ p ∈ ts, (l.find? fun e => e.1 == p.1) = some (p.1, one p.2)
  | [], ts, _, h, p, hp => by
    cases ts with
    | nil => cases hp
    | cons a b => simp [mgB] at h
  | (k, x) :: r, ts, hpw, h, p, hp => by
    rw [List.map_cons, List.pairwise_cons] at hpw
    have skip : (r.find? fun e => e.1 == p.1) = some (p.1, one p.2) → (((k, x) :: r).find? fun e => e.1 == p.1) = some (p.1, one p.2) := fun hf => by
      have hm : p.1 ∈ r.map (·.1) := List.mem_map.mpr ⟨_, List.mem_of_find?_eq_some hf, rfl⟩
      have hne : ¬ ((k, x).1 == p.1) = true := by
        have := hpw.1 _ hm
        simp only [beq_iff_eq]; dsimp only at this ⊢; omega
      exact (List.find?_cons_of_neg (p := fun (e : Int × Str) => e.1 == p.1) hne).trans hf
    cases ts with
    | nil => cases hp
    | cons a ts' =>
      obtain ⟨t, v⟩ := a
      unfold mgB at h
      dsimp only at h
      by_cases hk : k < t
      · rw [if_pos hk] at h
        exact skip (mg_find r _ hpw.2 h p hp)
      · rw [if_neg hk] at h
        simp only [Bool.and_eq_true, decide_eq_true_eq] at h
        rcases List.mem_cons.mp hp with e | e
        · subst e
          obtain ⟨⟨e1, e2⟩, _⟩ := h
          subst e1; subst e2
          exact List.find?_cons_of_pos (p := fun (e : Int × Str) => e.1 == k) (by simp)
        · exact skip (mg_find r ts' hpw.2 h.2 p e)
theorem mg26 : mgB prsB tgtL = true := by kernel_rfl
theorem lo26 : incr 180 (prsB.map (·.1)) = true := by kernel_rfl
theorem b3F_tgt {p : Int × Nat} (hp : p ∈ tgtL) : b3F p.1 = some (one p.2) := by
  unfold b3F
  rw [mg_find prsB tgtL (incr_pair _ _ incr26).1 mg26 p hp]; rfl
theorem b3F_low {k : Int} (h : k < 180) : b3F k = none := by
  unfold b3F
  have e : (prsB.find? fun p => p.1 == k) = none := List.find?_eq_none.mpr fun p hp hq => by
    have h1 := (incr_pair _ _ lo26).2 p.1 (List.mem_map.mpr ⟨p, hp, rfl⟩)
    have h2 : p.1 = k := by simpa using hq
    omega
  rw [e]; rfl
theorem b1_rng : ∀ x ∈ b1L, 128 < x ∧ x < 70000 := by decide +kernel
theorem b1_out {k : Int} (h : k ≤ 128 ∨ 70000 ≤ k) : b1S k = false := by
  unfold b1S
  cases e : b1L.contains k with
  | false => rfl
  | true =>
    have h1 := b1_rng k (List.contains_iff_mem.mp e)
    omega
theorem ch_tab : ∀ c ∈ chL, c < 128 ∧ Txt.lower ⟨#[c]⟩ = one (lowC c) ∧ (64 < c → c % 32 ∈ ltL ∧ lowC c = 96 + c % 32 ∧ Txt.lower ⟨#[64 + c % 32]⟩ = one (lowC c)) := by decide +kernel
theorem al_mem {j : Nat} (h : j < 10) : alL.getD j 0 ∈ alL := by revert j; decide +kernel
theorem b3T_low {c : Nat} (h : c < 180) : b3T c = Txt.lower ⟨#[c]⟩ := by unfold b3T; rw [b3F_low (by omega)]
theorem ch_form {c : Nat} (hc : c ∈ chL) {f : Int} (h0 : 0 ≤ f) (h1 : f < 12) : b1S (dgC (c : Int) f) = false ∧ 0 ≤ dgC (c : Int) f ∧ b3T (dgC (c : Int) f).toNat = one (lowC c) := by
  obtain ⟨a1, a2, a3⟩ := ch_tab c hc
  have hm : (c : Int).fmod 32 = ((c % 32 : Nat) : Int) := by rw [Int.fmod_eq_emod_of_nonneg _ (by decide)]; omega
  unfold dgC
  by_cases g1 : 64 < (c : Int) ∧ f = 1
  · obtain ⟨b1, b2, b3⟩ := a3 (by omega)
    rw [if_pos g1, hm]
    have e : (64 + ((c % 32 : Nat) : Int)).toNat = 64 + c % 32 := by omega
    refine ⟨b1_out (by omega), by omega, ?_⟩
    rw [e, b3T_low (by omega), b3]
  · rw [if_neg g1]
    by_cases g2 : 64 < (c : Int) ∧ 1 < f
    · obtain ⟨b1, b2, b3⟩ := a3 (by omega)
      have hal := al_bound (f - 2).toNat
      have hmem : (119807 + 52 * alL.getD (f - 2).toNat 0 + ((c % 32 : Nat) : Int), 96 + c % 32) ∈ tgtL :=
        List.mem_flatMap.mpr ⟨_, al_mem (by omega), List.mem_map.mpr ⟨c % 32, b1, rfl⟩⟩
      have hf := b3F_tgt hmem
      rw [if_pos g2, hm]
      refine ⟨b1_out (by omega), by omega, ?_⟩
      have e : (((119807 + 52 * alL.getD (f - 2).toNat 0 + ((c % 32 : Nat) : Int)).toNat : Nat) : Int) = 119807 + 52 * alL.getD (f - 2).toNat 0 + ((c % 32 : Nat) : Int) := by omega
      unfold b3T
      rw [e, hf, b2]
    · rw [if_neg g2]
      refine ⟨b1_out (by omega), by omega, ?_⟩
      rw [Int.toNat_natCast, b3T_low (by omega), a2]
theorem gap_forms : ((List.range 28).all fun g => (dgG (g : Int)).all fun (c : Nat) => b1S (c : Int)) = true := by decide +kernel
theorem prL_append (a b : List Nat) : prL (a ++ b) = prL a ++ prL b := by simp [prL]
end

section
theorem gap_form {g : Int} (h0 : 0 ≤ g) (h1 : g < 28) : ∀ c ∈ dgG g, b1S (c : Int) = true := by
  have h2 := List.all_eq_true.mp gap_forms g.toNat (List.mem_range.mpr (by omega))
  have e : ((g.toNat : Nat) : Int) = g := by omega
  rw [e] at h2
  exact fun c hc => List.all_eq_true.mp h2 c hc
theorem prL_cons_out {c : Nat} {l : List Nat} (h : b1S (c : Int) = true) : prL (c :: l) = prL l := by
  unfold prL; rw [List.filter_cons_of_neg (by simp [h])]
theorem prL_cons_in {c : Nat} {l : List Nat} (h : b1S (c : Int) = false) : prL (c :: l) = (b3T c).cps.toList ++ prL l := by
  unfold prL; rw [List.filter_cons_of_pos (by simp [h]), List.flatMap_cons]
theorem prL_out : ∀ l : List Nat, (∀ c ∈ l, b1S (c : Int) = true) → prL l = []
  | [], _ => rfl
  | c :: l, h => by rw [prL_cons_out (h c (List.mem_cons_self ..))]; exact prL_out l fun d hd => h d (List.mem_cons_of_mem _ hd)
theorem prL_dgP {x : Str} {n k : Int} (hc : x.cps.getD k.toNat 0 ∈ chL) : prL (dgP x n k) = [lowC (x.cps.getD k.toNat 0)] := by
  have h := ch_form hc (f := (dgTn n k).fmod 12) (Int.fmod_nonneg_of_pos _ (by decide)) (Int.fmod_lt_of_pos _ (by decide))
  have hg := gap_form (g := ((dgTn n k).fdiv 12).fmod 28) (Int.fmod_nonneg_of_pos _ (by decide)) (Int.fmod_lt_of_pos _ (by decide))
  unfold dgP
  have e : ((((dgC ((x.cps.getD k.toNat 0 : Nat) : Int) ((dgTn n k).fmod 12)).toNat : Nat) : Int)) = dgC ((x.cps.getD k.toNat 0 : Nat) : Int) ((dgTn n k).fmod 12) := Int.toNat_of_nonneg h.2.1
  rw [prL_cons_in (by rw [e]; exact h.1), h.2.2, prL_out _ hg]; rfl
theorem dgP_b3 {x : Str} {n k : Int} (hc : x.cps.getD k.toNat 0 ∈ chL) : ∀ c ∈ dgP x n k, b1S (c : Int) = false → (b3T c).length = 1 := by
  have h := ch_form hc (f := (dgTn n k).fmod 12) (Int.fmod_nonneg_of_pos _ (by decide)) (Int.fmod_lt_of_pos _ (by decide))
  have hg := gap_form (g := ((dgTn n k).fdiv 12).fmod 28) (Int.fmod_nonneg_of_pos _ (by decide)) (Int.fmod_lt_of_pos _ (by decide))
  intro c hm hb
  unfold dgP at hm
  rcases List.mem_cons.mp hm with h1 | h1
  · rw [h1, h.2.2]; rfl
  · rw [hg c h1] at hb; cases hb
theorem getD_mem {l : List Nat} (hl : l.length = 10) (hc : ∀ c ∈ l, c ∈ chL) {j : Nat} (hj : j < 10) : (⟨l.toArray⟩ : Str).cps.getD j 0 ∈ chL := by
  have e : (⟨l.toArray⟩ : Str).cps.getD j 0 = l[j]'(by omega) := by simp [Array.getD, hl, hj]
  rw [e]; exact hc _ (List.getElem_mem _)
theorem prL_dgL {l : List Nat} (hl : l.length = 10) (hc : ∀ c ∈ l, c ∈ chL) (n : Int) : ∀ i : Nat, i ≤ 10 → prL (dgL ⟨l.toArray⟩ n i) = (l.take i).map lowC
  | 0, _ => rfl
  | i + 1, hi => by
    rw [dgL_succ, prL_append, prL_dgL hl hc n i (by omega), prL_dgP (getD_mem hl hc (j := (i : Int).toNat) (by omega)), List.take_add_one, List.map_append]
    congr 1
    have e : l[i]? = some (l[i]'(by omega)) := List.getElem?_eq_getElem _
    rw [e]
    simp [Array.getD, hl, show i < 10 by omega]
theorem dgL_b3 {l : List Nat} (hl : l.length = 10) (hc : ∀ c ∈ l, c ∈ chL) (n : Int) : ∀ c ∈ dgL ⟨l.toArray⟩ n 10, b1S (c : Int) = false → (b3T c).length = 1 := by
  intro c hm
  unfold dgL at hm
  obtain ⟨j, hj, hm⟩ := List.mem_flatMap.mp hm
  have hj := List.mem_range.mp hj
  exact dgP_b3 (getD_mem hl hc (j := (j : Int).toNat) (by omega)) c hm
theorem ch_plain {c : Nat} (hc : c ∈ chL) : b1S (c : Int) = false ∧ b3T c = one (lowC c) := by
  have h := ch_form hc (f := 0) (by decide) (by decide)
  have e : dgC (c : Int) 0 = (c : Int) := by unfold dgC; rw [if_neg (by omega), if_neg (by omega)]
  rw [e] at h
  exact ⟨h.1, by simpa using h.2.2⟩
theorem prL_self : ∀ l : List Nat, (∀ c ∈ l, c ∈ chL) → prL l = l.map lowC
  | [], _ => rfl
  | c :: l, h => by
    have h1 := ch_plain (h c (List.mem_cons_self ..))
    rw [prL_cons_in h1.1, h1.2, prL_self l fun d hd => h d (List.mem_cons_of_mem _ hd)]; rfl
/-- the mode's fields, and what is asked -/
noncomputable def lowL (n : Int) : List Nat := [tyC (n / 4096), rdC (n / 64), wdC (n / 64), lxC 115 (n / 2048) (n / 64), rdC (n / 8), wdC (n / 8), lxC 115 (n / 1024) (n / 8), rdC n, wdC n, lxC 116 (n / 512) n]
theorem ty_ch (t : Int) : tyC t ∈ chL ∧ lowC (tyC t) = tyC t := by unfold tyC; (repeat' split) <;> decide
theorem rd_ch (t : Int) : rdC t ∈ chL ∧ lowC (rdC t) = rdC t := by unfold rdC; (repeat' split) <;> decide
theorem wd_ch (t : Int) : wdC t ∈ chL ∧ lowC (wdC t) = wdC t := by unfold wdC; (repeat' split) <;> decide
theorem xd_ch5 (u a : Int) : xdC 115 u a ∈ chL ∧ lowC (xdC 115 u a) = lxC 115 u a := by unfold xdC lxC; (repeat' split) <;> first | decide | omega
theorem xd_ch6 (u a : Int) : xdC 116 u a ∈ chL ∧ lowC (xdC 116 u a) = lxC 116 u a := by unfold xdC lxC; (repeat' split) <;> first | decide | omega
theorem lx_ch5 (u a : Int) : lxC 115 u a ∈ chL ∧ lowC (lxC 115 u a) = lxC 115 u a := by unfold lxC; (repeat' split) <;> decide
theorem lx_ch6 (u a : Int) : lxC 116 u a ∈ chL ∧ lowC (lxC 116 u a) = lxC 116 u a := by unfold lxC; (repeat' split) <;> decide
theorem fm_ch (n : Int) (h0 : 0 ≤ n) (h1 : n < 65536) : (∀ c ∈ fmL n, c ∈ chL) ∧ (fmL n).map lowC = lowL n := by
  rw [fm_form n h0 h1]
  constructor
  · intro c hc
    simp only [List.mem_cons, List.not_mem_nil, or_false] at hc
    rcases hc with h | h | h | h | h | h | h | h | h | h <;> rw [h]
    · exact (ty_ch _).1
    · exact (rd_ch _).1
    · exact (wd_ch _).1
    · exact (xd_ch5 _ _).1
    · exact (rd_ch _).1
    · exact (wd_ch _).1
    · exact (xd_ch5 _ _).1
    · exact (rd_ch _).1
    · exact (wd_ch _).1
    · exact (xd_ch6 _ _).1
  · simp only [List.map_cons, List.map_nil, (ty_ch _).2, (rd_ch _).2, (wd_ch _).2, (xd_ch5 _ _).2, (xd_ch6 _ _).2, lowL]
theorem low_ch (n : Int) : (∀ c ∈ lowL n, c ∈ chL) ∧ prL (lowL n) = lowL n := by
  have h : ∀ c ∈ lowL n, c ∈ chL := by
    intro c hc
    simp only [lowL, List.mem_cons, List.not_mem_nil, or_false] at hc
    rcases hc with h | h | h | h | h | h | h | h | h | h <;> rw [h]
    · exact (ty_ch _).1
    · exact (rd_ch _).1
    · exact (wd_ch _).1
    · exact (lx_ch5 _ _).1
    · exact (rd_ch _).1
    · exact (wd_ch _).1
    · exact (lx_ch5 _ _).1
    · exact (rd_ch _).1
    · exact (wd_ch _).1
    · exact (lx_ch6 _ _).1
  refine ⟨h, (prL_self _ h).trans ?_⟩
  simp only [lowL, List.map_cons, List.map_nil, (ty_ch _).2, (rd_ch _).2, (wd_ch _).2, (lx_ch5 _ _).2, (lx_ch6 _ _).2]
/-- P1 -/
theorem plain_is (n : Int) (h0 : 0 ≤ n) (h1 : n < 65536) (k : Int) : prL (dgL ⟨(fmL n).toArray⟩ k 10) = lowL n := by
  rw [prL_dgL (fmL_len n) (fm_ch n h0 h1).1 k 10 (by decide), List.take_of_length_le (by rw [fmL_len]; decide), (fm_ch n h0 h1).2]
theorem lack_e (n : Int) : lackN n = (if n / 512 % 2 = 1 ∧ n % 2 = 0 then 1 else 0) + (if n / 1024 % 2 = 1 ∧ n / 8 % 2 = 0 then 8 else 0) + (if n / 2048 % 2 = 1 ∧ n / 64 % 2 = 0 then 64 else 0) := by
  unfold lackN lk1
  simp only [Int.fdiv_eq_ediv_of_nonneg _ (show (0 : Int) ≤ 512 by decide), Int.fdiv_eq_ediv_of_nonneg _ (show (0 : Int) ≤ 1 by decide), Int.fdiv_eq_ediv_of_nonneg _ (show (0 : Int) ≤ 1024 by decide), Int.fdiv_eq_ediv_of_nonneg _ (show (0 : Int) ≤ 8 by decide), Int.fdiv_eq_ediv_of_nonneg _ (show (0 : Int) ≤ 2048 by decide), Int.fdiv_eq_ediv_of_nonneg _ (show (0 : Int) ≤ 64 by decide), Int.fmod_eq_emod_of_nonneg _ (show (0 : Int) ≤ 2 by decide), Int.ediv_one]
theorem lack_b (n : Int) (h0 : 0 ≤ n) (h1 : n < 65536) : 0 ≤ lackN n ∧ lackN n ≤ 73 ∧ n + lackN n < 65536 := by
  have h := lack_e n
  split at h <;> split at h <;> split at h <;> omega
end

section
theorem nc (x c y : Int) (h0 : 0 ≤ c) (h1 : x % 2 + c ≤ 1) : (x + c + 8 * y) / 8 = x / 8 + y ∧ (x + c + 8 * y) / 2 % 2 = x / 2 % 2 ∧ (x + c + 8 * y) / 4 % 2 = x / 4 % 2 ∧ (x + c + 8 * y) % 2 = x % 2 + c := by
  refine ⟨?_, ?_, ?_, ?_⟩ <;> omega
noncomputable def lcC (p q : Int) : Int := if p % 2 = 1 ∧ q % 2 = 0 then 1 else 0
theorem lcC_b (p q : Int) : 0 ≤ lcC p q ∧ lcC p q ≤ 1 ∧ q % 2 + lcC p q ≤ 1 ∧ (lcC p q = 1 ↔ (p % 2 = 1 ∧ q % 2 = 0)) ∧ (q % 2 + lcC p q = 1 ↔ (q % 2 = 1 ∨ p % 2 = 1)) := by
  unfold lcC
  split
  · omega
  · omega
theorem lack_c (n : Int) : lackN n = lcC (n / 512) n + 8 * lcC (n / 1024) (n / 8) + 64 * lcC (n / 2048) (n / 64) := by
  have e : ∀ (P : Prop) [Decidable P] (k : Int), (if P then k else 0) = k * (if P then 1 else 0) := fun P _ k => by split <;> simp
  rw [lack_e, e _ 8, e _ 64]; rfl
theorem dd (x : Int) {a b c : Int} (ha : 0 ≤ a) (h : a * b = c) : x / a / b = x / c := by rw [Int.ediv_ediv_of_nonneg ha, h]
theorem e_facts (n : Int) (m : Int) (hm : m = n + lackN n) :
    m / 4096 = n / 4096 ∧ m / 64 / 4 % 2 = n / 64 / 4 % 2 ∧ m / 64 / 2 % 2 = n / 64 / 2 % 2 ∧ m / 8 / 4 % 2 = n / 8 / 4 % 2 ∧ m / 8 / 2 % 2 = n / 8 / 2 % 2 ∧ m / 4 % 2 = n / 4 % 2 ∧ m / 2 % 2 = n / 2 % 2 ∧
    m / 2048 % 2 = n / 2048 % 2 ∧ m / 1024 % 2 = n / 1024 % 2 ∧ m / 512 % 2 = n / 512 % 2 ∧
    (m / 64 % 2 = 1 ↔ (n / 64 % 2 = 1 ∨ n / 2048 % 2 = 1)) ∧ (m / 8 % 2 = 1 ↔ (n / 8 % 2 = 1 ∨ n / 1024 % 2 = 1)) ∧ (m % 2 = 1 ↔ (n % 2 = 1 ∨ n / 512 % 2 = 1)) := by
  rw [lack_c] at hm
  obtain ⟨p0, _, p1, _, p2⟩ := lcC_b (n / 512) n
  obtain ⟨q0, _, q1, _, q2⟩ := lcC_b (n / 1024) (n / 8)
  obtain ⟨r0, _, r1, _, r2⟩ := lcC_b (n / 2048) (n / 64)
  generalize lcC (n / 512) n = c0 at *
  generalize lcC (n / 1024) (n / 8) = c1 at *
  generalize lcC (n / 2048) (n / 64) = c2 at *
  obtain ⟨a1, a2, a3, a4⟩ := nc n c0 (c1 + 8 * c2) p0 p1
  obtain ⟨b1, b2, b3, b4⟩ := nc (n / 8) c1 c2 q0 q1
  obtain ⟨d1, d2, d3, d4⟩ := nc (n / 64) c2 0 r0 r1
  have e0 : n + c0 + 8 * (c1 + 8 * c2) = m := by rw [hm]; simp only [Int.mul_add]; rw [← Int.mul_assoc]; simp only [Int.add_assoc]; rfl
  rw [e0] at a1 a2 a3 a4
  have e1 : n / 8 + c1 + 8 * c2 = m / 8 := by rw [a1, Int.add_assoc]
  rw [e1] at b1 b2 b3 b4
  rw [dd m (by decide) (show (8 : Int) * 8 = 64 by decide), dd n (by decide) (show (8 : Int) * 8 = 64 by decide)] at b1
  have e2 : n / 64 + c2 + 8 * 0 = m / 64 := by rw [b1, Int.mul_zero, Int.add_zero]
  rw [e2] at d1 d2 d3 d4
  rw [dd m (by decide) (show (64 : Int) * 8 = 512 by decide), dd n (by decide) (show (64 : Int) * 8 = 512 by decide), Int.add_zero] at d1
  have f1 : m / 1024 = n / 1024 := by rw [← dd m (by decide) (show (512 : Int) * 2 = 1024 by decide), ← dd n (by decide) (show (512 : Int) * 2 = 1024 by decide), d1]
  have f2 : m / 2048 = n / 2048 := by rw [← dd m (by decide) (show (512 : Int) * 4 = 2048 by decide), ← dd n (by decide) (show (512 : Int) * 4 = 2048 by decide), d1]
  have f3 : m / 4096 = n / 4096 := by rw [← dd m (by decide) (show (512 : Int) * 8 = 4096 by decide), ← dd n (by decide) (show (512 : Int) * 8 = 4096 by decide), d1]
  exact ⟨f3, d3, d2, b3, b2, a3, a2, by rw [f2], by rw [f1], by rw [d1], by rw [d4]; exact r2, by rw [b4]; exact q2, by rw [a4]; exact p2⟩
theorem xd_lx {l : Nat} {u a u' a' : Int} (hu : u' % 2 = u % 2) (ha : a' % 2 = 1 ↔ (a % 2 = 1 ∨ u % 2 = 1)) : xdC l u' a' = lxC l u a := by
  unfold xdC lxC
  by_cases h1 : u % 2 = 1
  · have h2 : a' % 2 = 1 := ha.mpr (.inr h1)
    rw [if_pos h2, if_pos (hu.trans h1), if_pos h1]
  · rw [if_neg h1]
    have h3 : ¬ u' % 2 = 1 := fun q => h1 (hu.symm.trans q)
    by_cases h2 : a % 2 = 1
    · rw [if_pos (ha.mpr (.inl h2)), if_neg h3, if_pos h2]
    · rw [if_neg (fun q => (ha.mp q).elim h2 h1), if_neg h3, if_neg h2]
/-- P2 -/
theorem fm_added (n : Int) (h0 : 0 ≤ n) (h1 : n < 65536) : fmL (n + lackN n) = lowL n := by
  have hb := lack_b n h0 h1
  rw [fm_form _ (by omega) hb.2.2]
  obtain ⟨a1, a2, a3, a4, a5, a6, a7, a8, a9, a10, a11, a12, a13⟩ := e_facts n _ rfl
  unfold lowL
  rw [xd_lx a8 a11, xd_lx a9 a12, xd_lx a10 a13]
  unfold rdC wdC
  rw [a1, a2, a3, a4, a5, a6, a7]
/-- P3 -/
theorem rt_ok5 (u p : Int) : rtOk (rdC p) (wdC p) (lxC 115 u p) 115 := by unfold rtOk rdC wdC lxC; (repeat' split) <;> decide
theorem rt_ok6 (u p : Int) : rtOk (rdC p) (wdC p) (lxC 116 u p) 116 := by unfold rtOk rdC wdC lxC; (repeat' split) <;> decide
noncomputable def bitI (p : Prop) [Decidable p] : Int := if p then 1 else 0
theorem rt_val5 (u p R J V : Int) : rtV (rdC p) (wdC p) (lxC 115 u p) 115 R J V = V + (if p / 4 % 2 = 1 then 4 * R else 0) + (if p / 2 % 2 = 1 then 2 * R else 0) + (if u % 2 = 1 then R else if p % 2 = 1 then R else 0) + (if u % 2 = 1 then 512 * 2 ^ (2 - J).toNat else 0) := by
  unfold rtV rt1 rt2 rt3 rt4 rdC wdC lxC
  by_cases h1 : p / 4 % 2 = 1 <;> by_cases h2 : p / 2 % 2 = 1 <;> by_cases h3 : u % 2 = 1 <;> by_cases h4 : p % 2 = 1 <;> simp [h1, h2, h3, h4]
theorem rt_val6 (u p R J V : Int) : rtV (rdC p) (wdC p) (lxC 116 u p) 116 R J V = V + (if p / 4 % 2 = 1 then 4 * R else 0) + (if p / 2 % 2 = 1 then 2 * R else 0) + (if u % 2 = 1 then R else if p % 2 = 1 then R else 0) + (if u % 2 = 1 then 512 * 2 ^ (2 - J).toNat else 0) := by
  unfold rtV rt1 rt2 rt3 rt4 rdC wdC lxC
  by_cases h1 : p / 4 % 2 = 1 <;> by_cases h2 : p / 2 % 2 = 1 <;> by_cases h3 : u % 2 = 1 <;> by_cases h4 : p % 2 = 1 <;> simp [h1, h2, h3, h4]
noncomputable def rtA (n : Int) : Int := rtV (rdC (n / 64)) (wdC (n / 64)) (lxC 115 (n / 2048) (n / 64)) 115 64 0 0
noncomputable def rtB (n : Int) : Int := rtV (rdC (n / 8)) (wdC (n / 8)) (lxC 115 (n / 1024) (n / 8)) 115 8 1 (rtA n)
noncomputable def rtE (n : Int) : Int := rtV (rdC n) (wdC n) (lxC 116 (n / 512) n) 116 1 2 (rtB n)
noncomputable def rtS (n : Int) (i : Nat) : Int := match i with | 0 => 0 | 1 => rtA n | 2 => rtB n | _ => rtE n
theorem ite_q {p : Prop} [Decidable p] {x y : Int} (h : x = y) : (if p then x else 0) = (if p then y else 0) := by rw [h]
theorem bit_ite (x k : Int) : (if x % 2 = 1 then k else 0) = k * (x % 2) := by
  have : x % 2 = 0 ∨ x % 2 = 1 := by omega
  rcases this with h | h <;> rw [h] <;> simp
theorem oct (x : Int) : x % 8 = 4 * (x / 4 % 2) + 2 * (x / 2 % 2) + x % 2 := by omega
theorem oct1 (x : Int) (k K : Int) (hk : 0 < k) (hK : k * 8 = K) : x % K = x % k + k * (x / k % 8) := by
  have h1 := Int.emod_add_mul_ediv x k
  have h2 := Int.emod_add_mul_ediv (x / k) 8
  have h3 := Int.emod_add_mul_ediv x K
  rw [dd x (Int.le_of_lt hk) hK] at h2
  have h4 : k * (x / k) = k * (x / k % 8) + K * (x / K) := by
    have h5 : K * (x / K) = k * (8 * (x / K)) := by rw [← Int.mul_assoc, hK]
    rw [h5, ← Int.mul_add, h2]
  omega
theorem oct4 (n : Int) : n % 4096 = n % 8 + 8 * (n / 8 % 8) + 64 * (n / 64 % 8) + 512 * (n / 512 % 8) := by
  rw [oct1 n 512 4096 (by decide) (by decide), oct1 n 64 512 (by decide) (by decide), oct1 n 8 64 (by decide) (by decide)]
theorem rt_sum (n : Int) (h0 : 0 ≤ n) (h1 : n < 65536) : rtS n 3 = n % 4096 + lackN n := by
  have e3 : rtS n 3 = rtV (rdC n) (wdC n) (lxC 116 (n / 512) n) 116 1 2 (rtS n 2) := rfl
  have e2 : rtS n 2 = rtV (rdC (n / 8)) (wdC (n / 8)) (lxC 115 (n / 1024) (n / 8)) 115 8 1 (rtS n 1) := rfl
  have e1 : rtS n 1 = rtV (rdC (n / 64)) (wdC (n / 64)) (lxC 115 (n / 2048) (n / 64)) 115 64 0 0 := rfl
  rw [e3, e2, e1, rt_val6, rt_val5, rt_val5, lack_e]
  have p0 : (512 : Int) * 2 ^ (2 - (0 : Int)).toNat = 2048 := by decide
  have p1 : (512 : Int) * 2 ^ (2 - (1 : Int)).toNat = 1024 := by decide
  have p2 : (512 : Int) * 2 ^ (2 - (2 : Int)).toNat = 512 := by decide
  rw [p0, p1, p2]
  have q : ∀ (u p R K : Int), (if u % 2 = 1 then R else if p % 2 = 1 then R else 0) = R * (p % 2) + (if u % 2 = 1 ∧ p % 2 = 0 then R else 0) := fun u p R K => by
    have h1 : u % 2 = 0 ∨ u % 2 = 1 := by omega
    have h2 : p % 2 = 0 ∨ p % 2 = 1 := by omega
    rcases h1 with h1 | h1 <;> rcases h2 with h2 | h2 <;> simp [h1, h2]
  rw [q _ _ _ 0, q _ _ _ 0, q _ _ _ 0]
  simp only [bit_ite]
  have o0 := oct n
  have o1 := oct (n / 8)
  have o2 := oct (n / 64)
  have o3 := oct (n / 512)
  rw [dd n (by decide) (show (512 : Int) * 4 = 2048 by decide), dd n (by decide) (show (512 : Int) * 2 = 1024 by decide)] at o3
  have o4 := oct4 n
  rw [o4, o0, o1, o2, o3]
  generalize (if n / 512 % 2 = 1 ∧ n % 2 = 0 then (1 : Int) else 0) = w0
  generalize (if n / 1024 % 2 = 1 ∧ n / 8 % 2 = 0 then (8 : Int) else 0) = w1
  generalize (if n / 2048 % 2 = 1 ∧ n / 64 % 2 = 0 then (64 : Int) else 0) = w2
  generalize n % 2 = x0
  generalize n / 2 % 2 = x1
  generalize n / 4 % 2 = x2
  generalize n / 8 % 2 = x3
  generalize n / 8 / 2 % 2 = x4
  generalize n / 8 / 4 % 2 = x5
  generalize n / 64 % 2 = x6
  generalize n / 64 / 2 % 2 = x7
  generalize n / 64 / 4 % 2 = x8
  generalize n / 512 % 2 = x9
  generalize n / 1024 % 2 = x10
  generalize n / 2048 % 2 = x11
  omega
theorem ty_tab : ((List.range 16).all fun t => decide (Txt.item (Str.ofString "?pc?d?b?-?l?s???") (t : Int) = one (tyC (t : Int)))) = true := by decide +kernel
theorem ty_item (t : Int) (h0 : 0 ≤ t) (h1 : t < 16) : Txt.item (Str.ofString "?pc?d?b?-?l?s???") t = one (tyC t) := by
  have h := List.all_eq_true.mp ty_tab t.toNat (List.mem_range.mpr (by omega))
  have e : ((t.toNat : Nat) : Int) = t := by omega
  rw [e] at h
  exact of_decide_eq_true h
/-- P5 -/
theorem ad_bits (n : Int) : (lackN n / 64 % 2 = 1 ↔ (n / 2048 % 2 = 1 ∧ n / 64 % 2 = 0)) ∧ (lackN n / 8 % 2 = 1 ↔ (n / 1024 % 2 = 1 ∧ n / 8 % 2 = 0)) ∧ (lackN n / 1 % 2 = 1 ↔ (n / 512 % 2 = 1 ∧ n % 2 = 0)) := by
  rw [lack_c]
  obtain ⟨p0, p1, _, p2, _⟩ := lcC_b (n / 512) n
  obtain ⟨q0, q1, _, q2, _⟩ := lcC_b (n / 1024) (n / 8)
  obtain ⟨r0, r1, _, r2, _⟩ := lcC_b (n / 2048) (n / 64)
  rw [← p2, ← q2, ← r2]
  clear p2 q2 r2
  generalize lcC (n / 512) n = c0 at *
  generalize lcC (n / 1024) (n / 8) = c1 at *
  generalize lcC (n / 2048) (n / 64) = c2 at *
  refine ⟨?_, ?_, ?_⟩ <;> omega
theorem xd_ne5 (u a : Int) : xdC 115 u a ≠ lxC 115 u a ↔ (u % 2 = 1 ∧ a % 2 = 0) := by
  unfold xdC lxC
  have h1 : u % 2 = 0 ∨ u % 2 = 1 := by omega
  have h2 : a % 2 = 0 ∨ a % 2 = 1 := by omega
  rcases h1 with h1 | h1 <;> rcases h2 with h2 | h2 <;> simp [h1, h2]
theorem xd_ne6 (u a : Int) : xdC 116 u a ≠ lxC 116 u a ↔ (u % 2 = 1 ∧ a % 2 = 0) := by
  unfold xdC lxC
  have h1 : u % 2 = 0 ∨ u % 2 = 1 := by omega
  have h2 : a % 2 = 0 ∨ a % 2 = 1 := by omega
  rcases h1 with h1 | h1 <;> rcases h2 with h2 | h2 <;> simp [h1, h2]
end

section
noncomputable def lwBody : List Stmt := match (dB 33)[1]? with | some (Stmt.For _ _ b _ _) => b | _ => []
noncomputable def lwS0 : Stmt := match lwBody[0]? with | some x => x | _ => default
noncomputable def lwS1 : Stmt := match lwBody[1]? with | some x => x | _ => default
noncomputable def lwS2 : Stmt := match lwBody[2]? with | some x => x | _ => default
noncomputable def lwS3 : Stmt := match lwBody[3]? with | some x => x | _ => default
noncomputable def lwS4 : Stmt := match lwBody[4]? with | some x => x | _ => default
noncomputable def lwS5 : Stmt := match lwBody[5]? with | some x => x | _ => default
noncomputable def lwS6 : Stmt := match lwBody[6]? with | some x => x | _ => default
noncomputable def lwS7 : Stmt := match lwBody[7]? with | some x => x | _ => default
noncomputable def lwS8 : Stmt := match lwBody[8]? with | some x => x | _ => default
theorem ch_small {c : Nat} (h : c ∈ chL) : c < 128 := by revert c; decide
theorem lwBody_eq : lwBody = [lwS0, lwS1, lwS2, lwS3, lwS4, lwS5, lwS6, lwS7, lwS8] := by rfl
section
local macro_rules | `(tactic| walk_at "call ref") => `(tactic| first | (k_here; (with_reducible show wpAny _ _ (call (Value.ref 149) _) _ _ _); k_dflt (refine' con_use (con_lack _ _) ?k1 ?k2 ?k3 ?k4 ?k5 ?k6 ?k7 ?k8 ?_; (case k1 => k_asm); (case k2 => k_asm); (case k3 => k_asm); (case k4 => k_asm); (case k5 => k_asm); (case k6 => first | exact rfl | assumption); (case k7 => ktr_room); (case k8 => ktr_units); intro t9 h9 tk9 F9 N9 k9; (try dsimp only))) | (k_here; (with_reducible show wpAny _ _ (call (Value.ref 61) _) _ _ _); k_dflt (refine' con_use (con_fm _ _) ?k1 ?k2 ?k3 ?k4 ?k5 ?k6 ?k7 ?k8 ?_; (case k1 => k_asm); (case k2 => k_asm); (case k3 => k_asm); (case k4 => k_asm); (case k5 => k_asm); (case k6 => first | exact rfl | assumption); (case k7 => ktr_room); (case k8 => ktr_units); intro t9 h9 tk9 F9 N9 k9; (try dsimp only))) | (k_here; (with_reducible show wpAny _ _ (call (Value.ref 132) _) _ _ _); k_dflt (refine' con_use (con_disg (by assumption) (by assumption) (by exact Int.fmod_nonneg_of_pos _ (by decide)) _ _) ?k1 ?k2 ?k3 ?k4 ?k5 ?k6 ?k7 ?k8 ?_; (case k1 => k_asm); (case k2 => k_asm); (case k3 => k_asm); (case k4 => k_asm); (case k5 => k_asm); (case k6 => first | exact rfl | assumption); (case k7 => ktr_room); (case k8 => ktr_units); intro t9 h9 tk9 F9 N9 k9; (try dsimp only))) | (k_here; (with_reducible show wpAny _ _ (call (Value.ref 137) _) _ _ _); k_dflt (refine' con_use (con_prep (by exact dgL_len _ _ 10) (by exact dgL_b3 (fmL_len _) (fm_ch _ (by assumption) (by assumption)).1 _) _) ?k1 ?k2 ?k3 ?k4 ?k5 ?k6 ?k7 ?k8 ?_; (case k1 => k_asm); (case k2 => k_asm); (case k3 => k_asm); (case k4 => k_asm); (case k5 => k_asm); (case k6 => first | exact rfl | assumption); (case k7 => ktr_room); (case k8 => ktr_units); intro t9 h9 tk9 F9 N9 k9; (try dsimp only))))
local macro_rules | `(tactic| walk_at "binaryOp Pow int int") => `(tactic| (k_here; (with_reducible refine pow_lit 1000000000000000000000000000000 ?kb0 ?kb1 ?kb2 ?kb3 ?_; (case kb0 => decide +kernel); (case kb1 => decide +kernel); (case kb2 => decide +kernel); (case kb3 => decide +kernel))))
variable {prog : Program} {w : World} {mean : ExcName → Option Value} {mg mb : Str → Option Value} {h₀ : Heap} {L fa : Addr} {cdv : Value} {s : Shared} {Q : Flow → Shared → Prop} {E : Value → Shared → Prop} {m : Str → Option Value} {news own : List (Addr × Obj)}
theorem lw_s0 {D : Addr} {us : List Value} {ns : List Int} {kk : Nat} {k : Int} {t : Tok} (X : (kF w.params).In h₀) (T : Top qB (looseW qB looseB) mean mg mb h₀) (B : Below callerA h₀ [] h₀)
    (F : Fr h₀ L s.heap m) (N : News h₀ L s.heap ((D, listOf us.toArray kk) :: own)) (hus : IntsAre us ns) (hk0 : 0 ≤ k) (hk1 : k < (ns.length : Int)) (hk2 : ns.length ≤ 4)
    (m1 : m (Str.ofString "numbers") = some (.ref D)) (m2 : m (Str.ofString "at") = some (.int k t))
    (h : ∀ h' tk m', Fr h₀ L h' m' → News h₀ L h' ((D, listOf us.toArray kk) :: own) → (∃ u, m' (Str.ofString "own") = some (.int ((ns.getD k.toNat 0).fmod 65536) u)) → (∀ y, y ≠ Str.ofString "own" → m' y = m y) → Q .next { s with heap := h', toks := tk }) :
    wpAny (model prog w) (callerA.deeper (envOfC (Str.ofString "law") (dS 33) L fa cdv)) (exec lwS0 (envOfC (Str.ofString "law") (dS 33) L fa cdv)) Q E s := by
  obtain ⟨sh, sg, sd, st, so⟩ := s
  conv in lwS0 => whnf
  have F2 := F
  have key := map2 m1 m2
  rw [key] at F2
  clear F
  k_steps
  exact h _ _ _ (by assumption) (by assumption) ⟨_, if_pos rfl⟩ (fun y hy => by rw [if_neg hy]; exact (congrFun key y).symm)
theorem lw_s1 {oP oL oA : Obj} {n : Int} {t : Tok} {v : Option Value} (X : (kF w.params).In h₀) (T : Top qB (looseW qB looseB) mean mg mb h₀) (B : Below callerA h₀ [] h₀)
    (F : Fr h₀ L s.heap m) (N : News h₀ L s.heap ((L + 1 + 1 + 1, oP) :: (L + 1 + 1, oL) :: (L + 1, oA) :: own)) (ho : OwnOff own [L + 1 + 1 + 1, L + 1 + 1, L + 1]) (d : oA.data = .cell v)
    (m1 : m (Str.ofString "own") = some (.int n t))
    (h : ∀ h' tk oA', Fr h₀ L h' m → News h₀ L h' ((L + 1 + 1 + 1, oP) :: (L + 1 + 1, oL) :: (L + 1, oA') :: own) → (∃ u, oA'.data = .cell (some (.int (lackN n) u))) → Q .next { s with heap := h', toks := tk }) :
    wpAny (model prog w) (callerA.deeper (envOfC (Str.ofString "law") (dS 33) L fa cdv)) (exec lwS1 (envOfC (Str.ofString "law") (dS 33) L fa cdv)) Q E s := by
  obtain ⟨sh, sg, sd, st, so⟩ := s
  conv in lwS1 => whnf
  have F2 := F
  have key := map1 m1
  rw [key] at F2
  clear F
  k_steps
  exact h _ _ _ (by rw [key]; assumption) (by assumption) ⟨_, by assumption⟩
theorem lw_s2 {oP oL oA : Obj} {n : Int} {t : Tok} {v : Option Value} (X : (kF w.params).In h₀) (T : Top qB (looseW qB looseB) mean mg mb h₀) (B : Below callerA h₀ [] h₀)
    (F : Fr h₀ L s.heap m) (N : News h₀ L s.heap ((L + 1 + 1 + 1, oP) :: (L + 1 + 1, oL) :: (L + 1, oA) :: own)) (ho : OwnOff own [L + 1 + 1 + 1, L + 1 + 1, L + 1]) (d : oL.data = .cell v)
    (m1 : m (Str.ofString "own") = some (.int n t))
    (h : ∀ h' tk oL', Fr h₀ L h' m → News h₀ L h' ((L + 1 + 1 + 1, oP) :: (L + 1 + 1, oL') :: (L + 1, oA) :: own) → (∃ u, oL'.data = .cell (some (.str ⟨(fmL n).toArray⟩ u))) → Q .next { s with heap := h', toks := tk }) :
    wpAny (model prog w) (callerA.deeper (envOfC (Str.ofString "law") (dS 33) L fa cdv)) (exec lwS2 (envOfC (Str.ofString "law") (dS 33) L fa cdv)) Q E s := by
  obtain ⟨sh, sg, sd, st, so⟩ := s
  conv in lwS2 => whnf
  have F2 := F
  have key := map1 m1
  rw [key] at F2
  clear F
  k_steps
  exact h _ _ _ (by rw [key]; assumption) (by assumption) ⟨_, by assumption⟩
theorem lw_s3 {oP oL oA : Obj} {D : Addr} {us : List Value} {ns : List Int} {kk : Nat} {n k : Int} {t tl : Tok} {v : Option Value} (hn0 : 0 ≤ n) (hn1 : n < 65536) (X : (kF w.params).In h₀) (T : Top qB (looseW qB looseB) mean mg mb h₀) (B : Below callerA h₀ [] h₀)
    (F : Fr h₀ L s.heap m) (N : News h₀ L s.heap ((L + 1 + 1 + 1, oP) :: (L + 1 + 1, oL) :: (L + 1, oA) :: (D, listOf us.toArray kk) :: own)) (ho : OwnOff own [L + 1 + 1 + 1, L + 1 + 1, L + 1]) (ho2 : (@Ne Nat D (L + 1 + 1 + 1))) (d : oP.data = .cell v) (dl : oL.data = .cell (some (.str ⟨(fmL n).toArray⟩ tl)))
    (hus : IntsAre us ns) (hk0 : 0 ≤ k) (hk1 : k + 1 < (ns.length : Int)) (hk2 : ns.length ≤ 4)
    (m1 : m (Str.ofString "numbers") = some (.ref D)) (m2 : m (Str.ofString "at") = some (.int k t))
    (h : ∀ h' tk oP', Fr h₀ L h' m → News h₀ L h' ((L + 1 + 1 + 1, oP') :: (L + 1 + 1, oL) :: (L + 1, oA) :: (D, listOf us.toArray kk) :: own) → (∃ u, oP'.data = .cell (some (.str ⟨(lowL n).toArray⟩ u))) → Q .next { s with heap := h', toks := tk }) :
    wpAny (model prog w) (callerA.deeper (envOfC (Str.ofString "law") (dS 33) L fa cdv)) (exec lwS3 (envOfC (Str.ofString "law") (dS 33) L fa cdv)) Q E s := by
  obtain ⟨sh, sg, sd, st, so⟩ := s
  conv in lwS3 => whnf
  have F2 := F
  have key := map2 m1 m2
  rw [key] at F2
  clear F
  have hx : (⟨(fmL n).toArray⟩ : Str).length = 10 := fmL_len n
  have hc : ∀ j, j < 10 → (⟨(fmL n).toArray⟩ : Str).cps.getD j 0 < 128 := fun j hj => ch_small (getD_mem (fmL_len n) (fm_ch n hn0 hn1).1 hj)
  have hm : ∀ q : Int, 0 ≤ q.fmod 1000000000000000000000000000000 := fun q => Int.fmod_nonneg_of_pos _ (by decide)
  k_steps
  rename Obj.data _ = _ => dd
  rw [plain_is n hn0 hn1] at dd
  exact h _ _ _ (by rw [key]; assumption) (by assumption) ⟨_, dd⟩
end
end

section
theorem low_len (n : Int) : (lowL n).length ≤ 20 := by show 10 ≤ 20; decide
theorem low_b3 (n : Int) : ∀ c ∈ lowL n, b1S (c : Int) = false → (b3T c).length = 1 := fun c hc _ => by rw [(ch_plain ((low_ch n).1 c hc)).2]; rfl
section
local macro_rules | `(tactic| walk_at "call ref") => `(tactic| first | (k_here; (with_reducible show wpAny _ _ (call (Value.ref 144) _) _ _ _); k_dflt (refine' con_use (con_rights (rt_ok5 _ _) (rt_ok5 _ _) (rt_ok6 _ _) _ (rtS _) rfl rfl rfl rfl) ?k1 ?k2 ?k3 ?k4 ?k5 ?k6 ?k7 ?k8 ?_; (case k1 => k_asm); (case k2 => k_asm); (case k3 => k_asm); (case k4 => k_asm); (case k5 => k_asm); (case k6 => first | exact rfl | assumption); (case k7 => ktr_room); (case k8 => ktr_units); intro t9 h9 tk9 F9 N9 k9; (try dsimp only))) | (k_here; (with_reducible show wpAny _ _ (call (Value.ref 61) _) _ _ _); k_dflt (refine' con_use (con_fm _ _) ?k1 ?k2 ?k3 ?k4 ?k5 ?k6 ?k7 ?k8 ?_; (case k1 => k_asm); (case k2 => k_asm); (case k3 => k_asm); (case k4 => k_asm); (case k5 => k_asm); (case k6 => first | exact rfl | assumption); (case k7 => ktr_room); (case k8 => ktr_units); intro t9 h9 tk9 F9 N9 k9; (try dsimp only))) | (k_here; (with_reducible show wpAny _ _ (call (Value.ref 137) _) _ _ _); k_dflt (refine' con_use (con_prep (by exact low_len _) (by exact low_b3 _) _) ?k1 ?k2 ?k3 ?k4 ?k5 ?k6 ?k7 ?k8 ?_; (case k1 => k_asm); (case k2 => k_asm); (case k3 => k_asm); (case k4 => k_asm); (case k5 => k_asm); (case k6 => first | exact rfl | assumption); (case k7 => ktr_room); (case k8 => ktr_units); intro t9 h9 tk9 F9 N9 k9; (try dsimp only))))
variable {prog : Program} {w : World} {mean : ExcName → Option Value} {mg mb : Str → Option Value} {h₀ : Heap} {L fa : Addr} {cdv : Value} {s : Shared} {Q : Flow → Shared → Prop} {E : Value → Shared → Prop} {m : Str → Option Value} {news own : List (Addr × Obj)}
theorem lw_s4g {oP oL oA : Obj} {x y : Str} {n : Int} {t tp tl ta : Tok} (hn0 : 0 ≤ n) (hn1 : n < 65536) (hx : x.length = 10) (hy : y.length = 10) (hy0 : Unit → Txt.item y 0 = Txt.item (Str.ofString "?pc?d?b?-?l?s???") (n.fdiv 4096)) (X : (kF w.params).In h₀) (T : Top qB (looseW qB looseB) mean mg mb h₀) (B : Below callerA h₀ [] h₀)
    (F : Fr h₀ L s.heap m) (N : News h₀ L s.heap ((L + 1 + 1 + 1, oP) :: (L + 1 + 1, oL) :: (L + 1, oA) :: own)) (ho : OwnOff own [L + 1 + 1 + 1, L + 1 + 1, L + 1]) (dp : oP.data = .cell (some (.str y tp))) (dl : oL.data = .cell (some (.str x tl))) (da : oA.data = .cell (some (.int (lackN n) ta)))
    (m1 : m (Str.ofString "own") = some (.int n t))
    (h : ∀ h' tk, Fr h₀ L h' m → News h₀ L h' ((L + 1 + 1 + 1, oP) :: (L + 1 + 1, oL) :: (L + 1, oA) :: own) → Q .next { s with heap := h', toks := tk }) :
    wpAny (model prog w) (callerA.deeper (envOfC (Str.ofString "law") (dS 33) L fa cdv)) (exec lwS4 (envOfC (Str.ofString "law") (dS 33) L fa cdv)) Q E s := by
  obtain ⟨sh, sg, sd, st, so⟩ := s
  conv in lwS4 => whnf
  have F2 := F
  have key := map1 m1
  rw [key] at F2
  clear F
  have hb : 0 ≤ n.fdiv 4096 ∧ n.fdiv 4096 < 16 := by rw [Int.fdiv_eq_ediv_of_nonneg _ (by decide)]; omega
  iterate 14 walk1
  · exfalso; rename ¬ _ = _ => hne; exact hne (by omega)
  dsimp only
  iterate 13 walk1
  · exfalso; rename ¬ _ = _ => hne; exact hne (by omega)
  dsimp only
  iterate 14 walk1
  dsimp only
  rw [hy0 (), bne_self_eq_false]
  k_steps
  exact h _ _ (by rw [key]; assumption) (by assumption)
theorem item_low (n : Int) (hn0 : 0 ≤ n) (hn1 : n < 65536) : Txt.item ⟨(lowL n).toArray⟩ 0 = Txt.item (Str.ofString "?pc?d?b?-?l?s???") (n.fdiv 4096) := by
  rw [ty_item _ (by rw [Int.fdiv_eq_ediv_of_nonneg _ (by decide)]; omega) (by rw [Int.fdiv_eq_ediv_of_nonneg _ (by decide)]; omega), Int.fdiv_eq_ediv_of_nonneg _ (by decide)]
  exact item_at (by decide) (by show (0 : Int) < ((10 : Nat) : Int); decide) rfl
theorem lw_s5 {oP oL oA : Obj} {n : Int} {t tp tl ta : Tok} (hn0 : 0 ≤ n) (hn1 : n < 65536) (X : (kF w.params).In h₀) (T : Top qB (looseW qB looseB) mean mg mb h₀) (B : Below callerA h₀ [] h₀)
    (F : Fr h₀ L s.heap m) (N : News h₀ L s.heap ((L + 1 + 1 + 1, oP) :: (L + 1 + 1, oL) :: (L + 1, oA) :: own)) (ho : OwnOff own [L + 1 + 1 + 1, L + 1 + 1, L + 1]) (dp : oP.data = .cell (some (.str ⟨(lowL n).toArray⟩ tp))) (dl : oL.data = .cell (some (.str ⟨(fmL n).toArray⟩ tl))) (da : oA.data = .cell (some (.int (lackN n) ta)))
    (m1 : m (Str.ofString "own") = some (.int n t))
    (h : ∀ h' tk, Fr h₀ L h' m → News h₀ L h' ((L + 1 + 1 + 1, oP) :: (L + 1 + 1, oL) :: (L + 1, oA) :: own) → Q .next { s with heap := h', toks := tk }) :
    wpAny (model prog w) (callerA.deeper (envOfC (Str.ofString "law") (dS 33) L fa cdv)) (exec lwS5 (envOfC (Str.ofString "law") (dS 33) L fa cdv)) Q E s := by
  obtain ⟨sh, sg, sd, st, so⟩ := s
  conv in lwS5 => whnf
  have F2 := F
  have key := map1 m1
  rw [key] at F2
  clear F
  k_steps
  · exfalso
    rename ¬ _ = _ => hne
    rw [rt_sum n hn0 hn1, Int.fmod_eq_emod_of_nonneg _ (by decide)] at hne
    exact hne rfl
  · exact h _ _ (by rw [key]; assumption) (by assumption)
theorem lw_s8 {oP oL oA : Obj} {n : Int} {t tp tl ta : Tok} (hn0 : 0 ≤ n) (hn1 : n < 65536) (X : (kF w.params).In h₀) (T : Top qB (looseW qB looseB) mean mg mb h₀) (B : Below callerA h₀ [] h₀)
    (F : Fr h₀ L s.heap m) (N : News h₀ L s.heap ((L + 1 + 1 + 1, oP) :: (L + 1 + 1, oL) :: (L + 1, oA) :: own)) (ho : OwnOff own [L + 1 + 1 + 1, L + 1 + 1, L + 1]) (dp : oP.data = .cell (some (.str ⟨(lowL n).toArray⟩ tp))) (dl : oL.data = .cell (some (.str ⟨(fmL n).toArray⟩ tl))) (da : oA.data = .cell (some (.int (lackN n) ta)))
    (m1 : m (Str.ofString "own") = some (.int n t))
    (h : ∀ h' tk, Fr h₀ L h' m → News h₀ L h' ((L + 1 + 1 + 1, oP) :: (L + 1 + 1, oL) :: (L + 1, oA) :: own) → Q .next { s with heap := h', toks := tk }) :
    wpAny (model prog w) (callerA.deeper (envOfC (Str.ofString "law") (dS 33) L fa cdv)) (exec lwS8 (envOfC (Str.ofString "law") (dS 33) L fa cdv)) Q E s := by
  obtain ⟨sh, sg, sd, st, so⟩ := s
  conv in lwS8 => whnf
  have F2 := F
  have key := map1 m1
  rw [key] at F2
  clear F
  k_steps
  · exfalso
    rename (_ != _) = true => hne
    rw [fm_added n hn0 hn1, bne_self_eq_false] at hne
    cases hne
  · exfalso
    rename (_ != _) = true => hne
    rw [(low_ch n).2, bne_self_eq_false] at hne
    cases hne
  · exact h _ _ (by rw [key]; assumption) (by assumption)
end
end

section
local macro_rules | `(tactic| walk_at "binaryOp Pow int int") => `(tactic| (k_here; first | (with_reducible refine pow_lit 1 ?kb0 ?kb1 ?kb2 ?kb3 ?_; (case kb0 => decide +kernel); (case kb1 => decide +kernel); (case kb2 => decide +kernel); (case kb3 => decide +kernel)) | (with_reducible refine pow_lit 2 ?kb0 ?kb1 ?kb2 ?kb3 ?_; (case kb0 => decide +kernel); (case kb1 => decide +kernel); (case kb2 => decide +kernel); (case kb3 => decide +kernel)) | (with_reducible refine pow_lit 4 ?kb0 ?kb1 ?kb2 ?kb3 ?_; (case kb0 => decide +kernel); (case kb1 => decide +kernel); (case kb2 => decide +kernel); (case kb3 => decide +kernel)) | (with_reducible refine pow_lit 8 ?kb0 ?kb1 ?kb2 ?kb3 ?_; (case kb0 => decide +kernel); (case kb1 => decide +kernel); (case kb2 => decide +kernel); (case kb3 => decide +kernel)) | (with_reducible refine pow_lit 64 ?kb0 ?kb1 ?kb2 ?kb3 ?_; (case kb0 => decide +kernel); (case kb1 => decide +kernel); (case kb2 => decide +kernel); (case kb3 => decide +kernel))))
noncomputable def chgP (n : Int) (j : Nat) : Bool := decide ((fmL n).getD j 0 ≠ (lowL n).getD j 0)
noncomputable def chgL (n : Int) : List Int := ((List.range 10).filter (chgP n)).map fun (j : Nat) => (j : Int)
noncomputable def wantQ (n : Int) (p : Int) : Bool := decide (((lackN n).fdiv (8 ^ (3 - p.fdiv 3).toNat)).fmod 2 = 1)
noncomputable def wantL (n : Int) : List Int := ([3, 6, 9] : List Int).filter (wantQ n)
theorem filt3 {p : Nat → Bool} (h0 : p 0 = false) (h1 : p 1 = false) (h2 : p 2 = false) (h4 : p 4 = false) (h5 : p 5 = false) (h7 : p 7 = false) (h8 : p 8 = false) {q : Int → Bool} (e3 : p 3 = q 3) (e6 : p 6 = q 6) (e9 : p 9 = q 9) :
    ((List.range 10).filter p).map (fun (j : Nat) => (j : Int)) = ([3, 6, 9] : List Int).filter q := by
  have e : List.range 10 = [0, 1, 2, 3, 4, 5, 6, 7, 8, 9] := rfl
  rw [e]
  simp only [List.filter_cons, h0, h1, h2, h4, h5, h7, h8, e3, e6, e9, List.filter_nil, Bool.false_eq_true, if_false]
  cases q 3 <;> cases q 6 <;> cases q 9 <;> rfl
theorem chg_want (n : Int) (h0 : 0 ≤ n) (h1 : n < 65536) : chgL n = wantL n := by
  have hb := ad_bits n
  have q3 : wantQ n 3 = decide (lackN n / 64 % 2 = 1) := by
    show decide (((lackN n).fdiv 64).fmod 2 = 1) = _
    rw [Int.fdiv_eq_ediv_of_nonneg _ (by decide), Int.fmod_eq_emod_of_nonneg _ (by decide)]
  have q6 : wantQ n 6 = decide (lackN n / 8 % 2 = 1) := by
    show decide (((lackN n).fdiv 8).fmod 2 = 1) = _
    rw [Int.fdiv_eq_ediv_of_nonneg _ (by decide), Int.fmod_eq_emod_of_nonneg _ (by decide)]
  have q9 : wantQ n 9 = decide (lackN n / 1 % 2 = 1) := by
    show decide (((lackN n).fdiv 1).fmod 2 = 1) = _
    rw [Int.fdiv_eq_ediv_of_nonneg _ (by decide), Int.fmod_eq_emod_of_nonneg _ (by decide)]
  refine filt3 ?_ ?_ ?_ ?_ ?_ ?_ ?_ ?_ ?_ ?_
  · unfold chgP; rw [fm_form n h0 h1]; exact decide_eq_false (fun q => q rfl)
  · unfold chgP; rw [fm_form n h0 h1]; exact decide_eq_false (fun q => q rfl)
  · unfold chgP; rw [fm_form n h0 h1]; exact decide_eq_false (fun q => q rfl)
  · unfold chgP; rw [fm_form n h0 h1]; exact decide_eq_false (fun q => q rfl)
  · unfold chgP; rw [fm_form n h0 h1]; exact decide_eq_false (fun q => q rfl)
  · unfold chgP; rw [fm_form n h0 h1]; exact decide_eq_false (fun q => q rfl)
  · unfold chgP; rw [fm_form n h0 h1]; exact decide_eq_false (fun q => q rfl)
  · unfold chgP; rw [fm_form n h0 h1, q3]
    exact decide_eq_decide.mpr ((xd_ne5 (n / 2048) (n / 64)).trans hb.1.symm)
  · unfold chgP; rw [fm_form n h0 h1, q6]
    exact decide_eq_decide.mpr ((xd_ne5 (n / 1024) (n / 8)).trans hb.2.1.symm)
  · unfold chgP; rw [fm_form n h0 h1, q9]
    exact decide_eq_decide.mpr ((xd_ne6 (n / 512) n).trans hb.2.2.symm)
theorem IntsAre_snoc {vs : List Value} {ns : List Int} (h : IntsAre vs ns) (n : Int) (t : Tok) : IntsAre (vs ++ [.int n t]) (ns ++ [n]) := by
  induction h with
  | nil => exact .cons _ _ .nil
  | cons a b _ ih => exact .cons _ _ ih
theorem chg_item (n : Int) {i : Nat} (hi : i < 10) : (Txt.item ⟨(fmL n).toArray⟩ (0 + (i : Int)) != Txt.item ⟨(lowL n).toArray⟩ (0 + (i : Int))) = chgP n i := by
  have e1 : Txt.item ⟨(fmL n).toArray⟩ (0 + (i : Int)) = ⟨#[(⟨(fmL n).toArray⟩ : Str).cps.getD i 0]⟩ := item_at (by omega) (by show _ < (((fmL n).length : Nat) : Int); rw [fmL_len]; omega) (by omega)
  have e2 : Txt.item ⟨(lowL n).toArray⟩ (0 + (i : Int)) = ⟨#[(⟨(lowL n).toArray⟩ : Str).cps.getD i 0]⟩ := item_at (by omega) (by show _ < ((10 : Nat) : Int); omega) (by omega)
  have g : ∀ l : List Nat, (⟨l.toArray⟩ : Str).cps.getD i 0 = l.getD i 0 := fun l => by simp [Array.getD, List.getD]; split <;> simp_all
  rw [e1, e2, g, g]
  unfold chgP
  by_cases h : (fmL n).getD i 0 = (lowL n).getD i 0
  · rw [h, bne_self_eq_false]; exact (decide_eq_false (fun q => q rfl)).symm
  · rw [decide_eq_true h]
    exact bne_iff_ne.mpr (fun q => h (by simpa using q))
theorem chg_hit {n : Int} {i : Nat} {ys : List Value} (hb : chgP n i = true) (hys : IntsAre ys (((List.range i).filter (chgP n)).map fun (j : Nat) => (j : Int))) (u : Tok) : IntsAre (ys ++ [.int (0 + (i : Int)) u]) (((List.range (i + 1)).filter (chgP n)).map fun (j : Nat) => (j : Int)) := by
  have e : ((List.range (i + 1)).filter (chgP n)).map (fun (j : Nat) => (j : Int)) = ((List.range i).filter (chgP n)).map (fun (j : Nat) => (j : Int)) ++ [0 + (i : Int)] := by
    rw [List.range_succ, List.filter_append, List.map_append]; simp [hb]
  rw [e]; exact IntsAre_snoc hys _ _
theorem chg_miss {n : Int} {i : Nat} {ys : List Value} (hb : chgP n i = false) (hys : IntsAre ys (((List.range i).filter (chgP n)).map fun (j : Nat) => (j : Int))) : IntsAre ys (((List.range (i + 1)).filter (chgP n)).map fun (j : Nat) => (j : Int)) := by
  have e : ((List.range (i + 1)).filter (chgP n)).map (fun (j : Nat) => (j : Int)) = ((List.range i).filter (chgP n)).map (fun (j : Nat) => (j : Int)) := by
    rw [List.range_succ, List.filter_append, List.map_append]; simp [hb]
  rw [e]; exact hys
theorem want_hit {n p : Int} {i : Nat} {ys : List Value} (hp : ([3, 6, 9] : List Int)[i]? = some p) (hq : wantQ n p = true) (h : IntsAre ys ((([3, 6, 9] : List Int).take i).filter (wantQ n))) (t : Tok) : IntsAre (ys ++ [.int p t]) ((([3, 6, 9] : List Int).take (i + 1)).filter (wantQ n)) := by
  have e : (([3, 6, 9] : List Int).take (i + 1)).filter (wantQ n) = (([3, 6, 9] : List Int).take i).filter (wantQ n) ++ [p] := by
    rw [List.take_add_one, hp, List.filter_append]; simp [hq]
  rw [e]; exact IntsAre_snoc h _ _
theorem want_miss {n p : Int} {i : Nat} {ys : List Value} (hp : ([3, 6, 9] : List Int)[i]? = some p) (hq : wantQ n p = false) (h : IntsAre ys ((([3, 6, 9] : List Int).take i).filter (wantQ n))) : IntsAre ys ((([3, 6, 9] : List Int).take (i + 1)).filter (wantQ n)) := by
  have e : (([3, 6, 9] : List Int).take (i + 1)).filter (wantQ n) = (([3, 6, 9] : List Int).take i).filter (wantQ n) := by
    rw [List.take_add_one, hp, List.filter_append]; simp [hq]
  rw [e]; exact h
section
variable {prog : Program} {w : World} {mean : ExcName → Option Value} {mg mb : Str → Option Value} {h₀ : Heap} {L fa : Addr} {cdv : Value} {s : Shared} {Q : Flow → Shared → Prop} {E : Value → Shared → Prop} {m : Str → Option Value} {news own : List (Addr × Obj)}
theorem lw_s6 {oP oL oA : Obj} {n : Int} {tp tl : Tok} (hn0 : 0 ≤ n) (hn1 : n < 65536) (X : (kF w.params).In h₀) (T : Top qB (looseW qB looseB) mean mg mb h₀) (B : Below callerA h₀ [] h₀)
    (F : Fr h₀ L s.heap m) (N : News h₀ L s.heap ((L + 1 + 1 + 1, oP) :: (L + 1 + 1, oL) :: (L + 1, oA) :: own)) (dp : oP.data = .cell (some (.str ⟨(lowL n).toArray⟩ tp))) (dl : oL.data = .cell (some (.str ⟨(fmL n).toArray⟩ tl)))
    (h : ∀ h' tk D ys, Fr h₀ L h' (fun z => if z = Str.ofString "changed" then some (.ref D) else m z) → News h₀ L h' ((D, LCg.lst ys) :: (L + 1 + 1 + 1, oP) :: (L + 1 + 1, oL) :: (L + 1, oA) :: own) → IntsAre ys (chgL n) → Q .next { s with heap := h', toks := tk }) :
    wpAny (model prog w) (callerA.deeper (envOfC (Str.ofString "law") (dS 33) L fa cdv)) (exec lwS6 (envOfC (Str.ofString "law") (dS 33) L fa cdv)) Q E s := by
  obtain ⟨sh, sg, sd, st, so⟩ := s
  conv in lwS6 => whnf
  refine LCt.Assign_ListComp_T (F₀ := F) rfl (by with_unfolding_all rfl) (by with_unfolding_all rfl) (by decide +kernel) (by rfl) (by decide +kernel) (by rfl) (by rfl) (by rfl) ?_
  iterate 7 walk1
  dsimp only
  have hx : (⟨(fmL n).toArray⟩ : Str).length = 10 := fmL_len n
  have hy : (⟨(lowL n).toArray⟩ : Str).length = 10 := rfl
  refine LCt.CompSrcT.range (n := 10) rfl (by k_asm) (by k_asm) (by assumption) (by decide) (by decide) (by rw [PySem.sizeLine_eq]; decide) fun g => ?_
  refine restT_ind (fun i ys => IntsAre ys (((List.range i).filter (chgP n)).map fun (j : Nat) => (j : Int))) trivial ?_ ?_ _ 0 [] (by rw [Nat.zero_add]) .nil
  · rintro ys hys D2 h2 tk2 F2 N2 off2
    exact h _ _ _ ys F2 N2 hys
  · rintro i ys v I oI C oC D2 m₂ h2 tk2 E' hi hys ⟨u, rfl⟩ hC hx F2 N2 off ne
    simp only [LCg.Off3, and_true] at off
    dsimp only at F2 N2 ⊢
    have hci := chg_item n hi
    k_steps
    all_goals rename (_ != _) = _ => hb
    · rw [hci] at hb
      exact Stay.intro (by assumption) (by assumption) (fun p hp => hp) (chg_hit hb hys u)
    · rw [hci] at hb
      exact Stay.intro (by assumption) (by assumption) (fun p hp => hp) (chg_miss hb hys)
theorem lw_s7 {oP oL oA : Obj} {D : Addr} {ys : List Value} {n : Int} {ta : Tok} (hn0 : 0 ≤ n) (hn1 : n < 65536) (X : (kF w.params).In h₀) (T : Top qB (looseW qB looseB) mean mg mb h₀) (B : Below callerA h₀ [] h₀)
    (F : Fr h₀ L s.heap m) (N : News h₀ L s.heap ((D, LCg.lst ys) :: (L + 1 + 1 + 1, oP) :: (L + 1 + 1, oL) :: (L + 1, oA) :: own)) (hys : IntsAre ys (wantL n)) (da : oA.data = .cell (some (.int (lackN n) ta)))
    (m1 : m (Str.ofString "changed") = some (.ref D))
    (h : ∀ h' tk, Fr h₀ L h' m → News h₀ L h' ((D, LCg.lst ys) :: (L + 1 + 1 + 1, oP) :: (L + 1 + 1, oL) :: (L + 1, oA) :: own) → Q .next { s with heap := h', toks := tk }) :
    wpAny (model prog w) (callerA.deeper (envOfC (Str.ofString "law") (dS 33) L fa cdv)) (exec lwS7 (envOfC (Str.ofString "law") (dS 33) L fa cdv)) Q E s := by
  obtain ⟨sh, sg, sd, st, so⟩ := s
  conv in lwS7 => whnf
  have F2 := F
  have key := map1 m1
  rw [key] at F2
  clear F
  iterate 3 walk1
  refine LCt.ListComp_T (F₀ := F2) (by with_unfolding_all rfl) (by decide +kernel) (by rfl) (by decide +kernel) (by rfl) ?_
  iterate 9 walk1
  dsimp only
  refine LCt.CompSrcT.ledger (its := #[.int 3 _, .int 6 _, .int 9 _]) (k := 0) rfl (by k_asm) (by k_asm) (by k_mem) (by rw [PySem.sizeLine_eq]; show 3 ≤ _; decide) fun g => ?_
  refine restT_ind (fun i ys2 => IntsAre ys2 ((([3, 6, 9] : List Int).take i).filter (wantQ n))) (Or.inr ⟨_, List.mem_cons_self .., rfl, _, rfl⟩) ?_ ?_ _ 0 [] (by rw [Nat.zero_add]) .nil
  · rintro ys2 hys2 D2 h2 tk2 F2 N2 off2
    dsimp only at F2 N2 ⊢
    k_steps
    · exact h _ _ (by rw [key]; assumption) (news_re (by assumption) (by intro p hp; exact List.mem_cons_of_mem _ (List.mem_cons_of_mem _ hp)))
    · exfalso
      rename ¬ _ = _ => hne
      exact hne rfl
  · rintro i ys2 v I oI C oC D2 m₂ h2 tk2 E' hi hys2 hv hC hx F2 N2 off ne
    simp only [LCg.Off3, and_true] at off
    dsimp only at F2 N2 ⊢
    match i, hi with
    | 0, _ =>
      obtain ⟨tt, rfl⟩ : ∃ tt, v = Value.int 3 tt := ⟨_, (Option.some.inj hv).symm⟩
      have hwq : wantQ n 3 = decide (((lackN n).fdiv 64).fmod 2 = 1) := rfl
      k_steps
      all_goals first
        | exact Stay.intro (by assumption) (by assumption) (fun p hp => hp) (want_hit rfl (hwq.trans (decide_eq_true (by assumption))) hys2 tt)
        | exact Stay.intro (by assumption) (by assumption) (fun p hp => hp) (want_miss rfl (hwq.trans (decide_eq_false (by assumption))) hys2)
    | 1, _ =>
      obtain ⟨tt, rfl⟩ : ∃ tt, v = Value.int 6 tt := ⟨_, (Option.some.inj hv).symm⟩
      have hwq : wantQ n 6 = decide (((lackN n).fdiv 8).fmod 2 = 1) := rfl
      k_steps
      all_goals first
        | exact Stay.intro (by assumption) (by assumption) (fun p hp => hp) (want_hit rfl (hwq.trans (decide_eq_true (by assumption))) hys2 tt)
        | exact Stay.intro (by assumption) (by assumption) (fun p hp => hp) (want_miss rfl (hwq.trans (decide_eq_false (by assumption))) hys2)
    | 2, _ =>
      obtain ⟨tt, rfl⟩ : ∃ tt, v = Value.int 9 tt := ⟨_, (Option.some.inj hv).symm⟩
      have hwq : wantQ n 9 = decide (((lackN n).fdiv 1).fmod 2 = 1) := rfl
      k_steps
      all_goals first
        | exact Stay.intro (by assumption) (by assumption) (fun p hp => hp) (want_hit rfl (hwq.trans (decide_eq_true (by assumption))) hys2 tt)
        | exact Stay.intro (by assumption) (by assumption) (fun p hp => hp) (want_miss rfl (hwq.trans (decide_eq_false (by assumption))) hys2)
end
end

section
section
variable {prog : Program} {w : World} {mean : ExcName → Option Value} {mg mb : Str → Option Value} {h₀ : Heap} {L fa : Addr} {cdv : Value} {s : Shared} {Q : Flow → Shared → Prop} {E : Value → Shared → Prop} {m : Str → Option Value} {news own : List (Addr × Obj)}
theorem lw_turn {oP oL oA : Obj} {vP vL vA : Option Value} {D : Addr} {us : List Value} {ns : List Int} {kk : Nat} {k : Int} {t : Tok} (X : (kF w.params).In h₀) (T : Top qB (looseW qB looseB) mean mg mb h₀) (B : Below callerA h₀ [] h₀)
    (F : Fr h₀ L s.heap m) (N : News h₀ L s.heap ((L + 1 + 1 + 1, oP) :: (L + 1 + 1, oL) :: (L + 1, oA) :: (D, listOf us.toArray kk) :: own)) (ho : OwnOff own [L + 1 + 1 + 1, L + 1 + 1, L + 1]) (oD : (@Ne Nat D (L + 1 + 1 + 1)) ∧ (@Ne Nat D (L + 1 + 1)) ∧ (@Ne Nat D (L + 1)))
    (dP : oP.data = .cell vP) (dL : oL.data = .cell vL) (dA : oA.data = .cell vA) (hus : IntsAre us ns) (hk0 : 0 ≤ k) (hk1 : k + 1 < (ns.length : Int)) (hk2 : ns.length ≤ 4)
    (m1 : m (Str.ofString "numbers") = some (.ref D)) (m2 : m (Str.ofString "at") = some (.int k t))
    (h : ∀ h' tk m' oP' oL' oA' vP' vL' vA', Fr h₀ L h' m' → News h₀ L h' ((L + 1 + 1 + 1, oP') :: (L + 1 + 1, oL') :: (L + 1, oA') :: (D, listOf us.toArray kk) :: own) → oP'.data = .cell vP' → oL'.data = .cell vL' → oA'.data = .cell vA' → m' (Str.ofString "numbers") = some (.ref D) → Q .next { s with heap := h', toks := tk }) :
    wpAny (model prog w) (callerA.deeper (envOfC (Str.ofString "law") (dS 33) L fa cdv)) (execs lwBody (envOfC (Str.ofString "law") (dS 33) L fa cdv)) Q E s := by
  rw [lwBody_eq]
  have N0 := news_re (l' := (D, listOf us.toArray kk) :: (L + 1 + 1 + 1, oP) :: (L + 1 + 1, oL) :: (L + 1, oA) :: own) N (by intro p hp; simp only [List.mem_cons] at hp ⊢; rcases hp with h | h | h | h | h <;> simp [h])
  refine wpAny_execs_cons (lw_s0 X T B F N0 hus hk0 (by omega) hk2 m1 m2 ?_)
  rintro h1 tk1 mA F1 N1 ⟨u1, e1⟩ k1
  generalize hn : (ns.getD k.toNat 0).fmod 65536 = n at e1
  have hn0 : 0 ≤ n := hn ▸ Int.fmod_nonneg_of_pos _ (by decide)
  have hn1 : n < 65536 := hn ▸ Int.fmod_lt_of_pos _ (by decide)
  have N1' := news_re (l' := (L + 1 + 1 + 1, oP) :: (L + 1 + 1, oL) :: (L + 1, oA) :: (D, listOf us.toArray kk) :: own) N1 (by intro p hp; simp only [List.mem_cons] at hp ⊢; rcases hp with h | h | h | h | h <;> simp [h])
  have ho' : OwnOff ((D, listOf us.toArray kk) :: own) [L + 1 + 1 + 1, L + 1 + 1, L + 1] := fun p hp b hb => by
    rcases List.mem_cons.mp hp with h | h
    · rw [h]
      simp only [List.mem_cons, List.not_mem_nil, or_false] at hb
      rcases hb with h | h | h <;> rw [h]
      · exact oD.1
      · exact oD.2.1
      · exact oD.2.2
    · exact ho p h b hb
  refine wpAny_execs_cons (lw_s1 X T B F1 N1' ho' dA e1 ?_)
  rintro h2 tk2 oA2 F2 N2 ⟨uA, dA2⟩
  refine wpAny_execs_cons (lw_s2 X T B F2 N2 ho' dL e1 ?_)
  rintro h3 tk3 oL2 F3 N3 ⟨uL, dL2⟩
  refine wpAny_execs_cons (lw_s3 hn0 hn1 X T B F3 N3 ho oD.1 dP dL2 hus hk0 hk1 hk2 ((k1 _ (by decide)).trans m1) ((k1 _ (by decide)).trans m2) ?_)
  rintro h4 tk4 oP2 F4 N4 ⟨uP, dP2⟩
  refine wpAny_execs_cons (lw_s4g (x := ⟨(fmL n).toArray⟩) (y := ⟨(lowL n).toArray⟩) hn0 hn1 (fmL_len n) rfl (fun _ => item_low n hn0 hn1) X T B F4 N4 ho' dP2 dL2 dA2 e1 ?_)
  intro h5 tk5 F5 N5
  refine wpAny_execs_cons (lw_s5 hn0 hn1 X T B F5 N5 ho' dP2 dL2 dA2 e1 ?_)
  intro h6 tk6 F6 N6
  refine wpAny_execs_cons (lw_s6 hn0 hn1 X T B F6 N6 dP2 dL2 ?_)
  intro h7 tk7 D2 ys F7 N7 hys
  rw [chg_want n hn0 hn1] at hys
  refine wpAny_execs_cons (lw_s7 hn0 hn1 X T B F7 N7 hys dA2 (if_pos rfl) ?_)
  intro h8 tk8 F8 N8
  refine wpAny_execs_cons (lw_s8 hn0 hn1 X T B F8 (news_re N8 fun p hp => List.mem_cons_of_mem _ hp) ho' dP2 dL2 dA2 ((if_neg (by decide)).trans e1) ?_)
  intro h9 tk9 F9 N9
  exact wpAny_execs_nil (h _ _ _ _ _ _ _ _ _ F9 N9 dP2 dL2 dA2 ((if_neg (by decide)).trans ((k1 _ (by decide)).trans m1)))
noncomputable def LwJ (L D : Addr) (us : List Value) (kk : Nat) (i : Nat) (m₁ : Str → Option Value) (nx : List (Addr × Obj)) : Prop :=
  m₁ (Str.ofString "numbers") = some (.ref D) ∧ ∃ oP oL oA vP vL vA, oP.data = .cell vP ∧ oL.data = .cell vL ∧ oA.data = .cell vA ∧ nx = [(L + 1 + 1 + 1, oP), (L + 1 + 1, oL), (L + 1, oA), (D, listOf us.toArray kk)]
theorem lw_loop {oP oL oA : Obj} {vP vL vA : Option Value} {D r : Addr} {us : List Value} {ns : List Int} {kk nn : Nat} {b₀ : Int} {t₀ u₀ v₀ : Tok} (X : (kF w.params).In h₀) (T : Top qB (looseW qB looseB) mean mg mb h₀) (B : Below callerA h₀ [] h₀)
    (hr : IsRange s.heap r 0 b₀ 1 t₀ u₀ v₀) (hb : b₀ = (nn : Int)) (hnn : nn + 1 = ns.length)
    (F : Fr h₀ L s.heap m) (N : News h₀ L s.heap [(L + 1 + 1 + 1, oP), (L + 1 + 1, oL), (L + 1, oA), (D, listOf us.toArray kk)]) (oD : (@Ne Nat D (L + 1 + 1 + 1)) ∧ (@Ne Nat D (L + 1 + 1)) ∧ (@Ne Nat D (L + 1)))
    (dP : oP.data = .cell vP) (dL : oL.data = .cell vL) (dA : oA.data = .cell vA) (hus : IntsAre us ns) (hk2 : ns.length ≤ 4)
    (m1 : m (Str.ofString "numbers") = some (.ref D))
    (h : ∀ h' tk m', Fr h₀ L h' m' → News h₀ L h' [] → Q .next { s with heap := h', toks := tk }) :
    wpAny (model prog w) (callerA.deeper (envOfC (Str.ofString "law") (dS 33) L fa cdv)) (pyIter (.ref r)) (fun it s₂ => LoopAtV prog w (callerA.deeper (envOfC (Str.ofString "law") (dS 33) L fa cdv)) h₀ (envOfC (Str.ofString "law") (dS 33) L fa cdv) (Str.ofString "at") lwBody Q E it s₂) E s := by
  subst hb
  have hsm := rg_small (n := nn) (by omega)
  refine kpr_invN (LwJ L D us kk) rfl hr hsm.1 (n := nn) hsm.2 F N ⟨m1, oP, oL, oA, vP, vL, vA, dP, dL, dA, rfl⟩ ?_ ?_
  · intro i k tt m₁ nx h2 tk2 own hi hown hJ F₁ N₁
    obtain ⟨e1, oP, oL, oA, vP, vL, vA, dP, dL, dA, rfl⟩ := hJ
    have hi' : i < nn ∧ (i : Int) = k := by
      have h9 := (List.getElem?_eq_some_iff.mp hi).1
      rw [rangeKs_length] at h9
      refine ⟨h9, ?_⟩
      simp [rangeKs, h9] at hi
      exact hi
    obtain ⟨hi1, rfl⟩ := hi'
    have ho : OwnOff own [L + 1 + 1 + 1, L + 1 + 1, L + 1] := fun p hp b hb => hown p hp b (by simp only [List.mem_cons, List.not_mem_nil, or_false] at hb; rcases hb with h | h | h <;> simp [h])
    refine lw_turn (k := (i : Int)) X T B F₁ N₁ ho oD dP dL dA hus (by omega) (by omega) hk2 ((if_neg (by decide)).trans e1) (if_pos rfl) ?_
    intro h' tk m' oP' oL' oA' vP' vL' vA' F' N' dP' dL' dA' e'
    exact InvEndN.intro F' N' (nx := [(L + 1 + 1 + 1, oP'), (L + 1 + 1, oL'), (L + 1, oA'), (D, listOf us.toArray kk)]) ⟨e', oP', oL', oA', vP', vL', vA', dP', dL', dA', rfl⟩ rfl (by intro p hp; simp only [List.mem_cons, List.not_mem_nil, or_false] at hp ⊢; rcases hp with h | h | h | h <;> simp [h]) (by intro p hp; simp [hp])
  · intro m₁ nx h2 tk2 hJ F₁ N₁
    exact h _ _ _ F₁ (news_re N₁ (by simp))
end
end

section
noncomputable def lwA : Stmt := match (dB 33)[0]? with | some x => x | _ => default
noncomputable def lwF : Stmt := match (dB 33)[1]? with | some x => x | _ => default
noncomputable def lwR : Stmt := match (dB 33)[2]? with | some x => x | _ => default
theorem lwB_eq : dB 33 = [lwA, lwF, lwR] := by rfl
section
variable {prog : Program} {w : World} {mean : ExcName → Option Value} {mg mb : Str → Option Value} {h₀ : Heap} {L fa : Addr} {cdv : Value} {s : Shared} {Q : Flow → Shared → Prop} {E : Value → Shared → Prop} {m : Str → Option Value} {news own : List (Addr × Obj)}
theorem lw_a {oP oL oA : Obj} {l : Addr} {vs : List Value} {ns : List Int} (X : (kF w.params).In h₀) (T : Top qB (looseW qB looseB) mean mg mb h₀) (B : Below callerA h₀ [] h₀) (hl : h₀.IsList l vs.toArray) (hi : IntsAre vs ns) (hlen : ns.length ≤ 63)
    (F : Fr h₀ L s.heap m) (N : News h₀ L s.heap [(L + 1 + 1 + 1, oP), (L + 1 + 1, oL), (L + 1, oA)])
    (m1 : m (Str.ofString "script") = some (.ref l))
    (h : ∀ h' tk m' D us ns' kk, Fr h₀ L h' m' → News h₀ L h' [(L + 1 + 1 + 1, oP), (L + 1 + 1, oL), (L + 1, oA), (D, listOf us.toArray kk)] → IntsAre us ns' → 1 ≤ ns'.length → ns'.length ≤ 4 → (@Ne Nat D (L + 1 + 1 + 1)) ∧ (@Ne Nat D (L + 1 + 1)) ∧ (@Ne Nat D (L + 1)) → m' (Str.ofString "numbers") = some (.ref D) → Q .next { s with heap := h', toks := tk }) :
    wpAny (model prog w) (callerA.deeper (envOfC (Str.ofString "law") (dS 33) L fa cdv)) (exec lwA (envOfC (Str.ofString "law") (dS 33) L fa cdv)) Q E s := by
  obtain ⟨sh, sg, sd, st, so⟩ := s
  conv in lwA => whnf
  have F2 := F
  have key := map1 m1
  rw [key] at F2
  clear F
  k_steps
  · rename Fr _ _ _ _ => F9
    rename News _ _ _ _ => N9
    refine h _ _ _ _ [.int 53164 st, .int 0 (st + 1)] [53164, 0] 0 F9 (news_re N9 ?_) (by repeat constructor) (by decide) (by decide) ⟨?_, ?_, ?_⟩ rfl
    · intro p hp; simp only [List.mem_cons, List.not_mem_nil, or_false] at hp ⊢; rcases hp with h | h | h | h <;> simp [h]
    all_goals omega
  · rename Fr _ _ _ _ => F9
    rename News _ _ _ _ => N9
    rename IntsAre _ (_ ++ _) => hI9
    refine h _ _ _ _ _ _ 0 F9 (news_re N9 ?_) hI9 ?_ ?_ ⟨?_, ?_, ?_⟩ rfl
    · intro p hp; simp only [List.mem_cons, List.not_mem_nil, or_false] at hp ⊢; rcases hp with h | h | h | h <;> simp [h]
    · simp
    · simp; omega
    all_goals omega
theorem lw_f {oP oL oA : Obj} {vP vL vA : Option Value} {D : Addr} {us : List Value} {ns : List Int} {kk : Nat} (X : (kF w.params).In h₀) (T : Top qB (looseW qB looseB) mean mg mb h₀) (B : Below callerA h₀ [] h₀)
    (F : Fr h₀ L s.heap m) (N : News h₀ L s.heap [(L + 1 + 1 + 1, oP), (L + 1 + 1, oL), (L + 1, oA), (D, listOf us.toArray kk)]) (oD : (@Ne Nat D (L + 1 + 1 + 1)) ∧ (@Ne Nat D (L + 1 + 1)) ∧ (@Ne Nat D (L + 1)))
    (dP : oP.data = .cell vP) (dL : oL.data = .cell vL) (dA : oA.data = .cell vA) (hus : IntsAre us ns) (hk1 : 1 ≤ ns.length) (hk2 : ns.length ≤ 4)
    (m1 : m (Str.ofString "numbers") = some (.ref D)) (hE : PassesOwn (model prog w) (callerA.deeper (envOfC (Str.ofString "law") (dS 33) L fa cdv)) (envOfC (Str.ofString "law") (dS 33) L fa cdv) E)
    (h : ∀ h' tk m', Fr h₀ L h' m' → News h₀ L h' [] → Q .next { s with heap := h', toks := tk }) :
    wpAny (model prog w) (callerA.deeper (envOfC (Str.ofString "law") (dS 33) L fa cdv)) (exec lwF (envOfC (Str.ofString "law") (dS 33) L fa cdv)) Q E s := by
  obtain ⟨sh, sg, sd, st, so⟩ := s
  conv in lwF => whnf
  have F2 := F
  have key := map1 m1
  rw [key] at F2
  clear F
  refine For_invVF F2 rfl rfl ?_ (by intro _; rfl) hE
  iterate 16 walk1
  dsimp only
  refine lw_loop (nn := ns.length - 1) X T B (by assumption) (by omega) (by omega) (by k_asm) (by k_asm) oD dP dL dA hus hk2 rfl ?_
  intro h5 tk5 m5 F5 N5
  exact h _ _ _ F5 N5
theorem law_body {oP oL oA : Obj} {vP vL vA : Option Value} {l : Addr} {vs : List Value} {ns : List Int} (X : (kF w.params).In h₀) (T : Top qB (looseW qB looseB) mean mg mb h₀) (hl : h₀.IsList l vs.toArray) (hi : IntsAre vs ns) (hlen : ns.length ≤ 63)
    (F : Fr h₀ L s.heap m) (N : News h₀ L s.heap [(L + 1 + 1 + 1, oP), (L + 1 + 1, oL), (L + 1, oA)])
    (dP : oP.data = .cell vP) (dL : oL.data = .cell vL) (dA : oA.data = .cell vA) (m1 : m (Str.ofString "script") = some (.ref l))
    (hE : PassesOwn (model prog w) (callerA.deeper (envOfC (Str.ofString "law") (dS 33) L fa cdv)) (envOfC (Str.ofString "law") (dS 33) L fa cdv) E)
    (h : ∀ h' tk m', Fr h₀ L h' m' → Q (.ret (.bool true)) { s with heap := h', toks := tk }) :
    wpAny (model prog w) (callerA.deeper (envOfC (Str.ofString "law") (dS 33) L fa cdv)) (execs (dB 33) (envOfC (Str.ofString "law") (dS 33) L fa cdv)) Q E s := by
  have B := below_caller h₀
  rw [lwB_eq]
  refine wpAny_execs_cons (lw_a X T B hl hi hlen F N m1 ?_)
  intro h1 tk1 mA D us ns' kk F1 N1 hus a1 a2 oD e1
  refine wpAny_execs_cons (lw_f X T B F1 N1 oD dP dL dA hus a1 a2 e1 hE ?_)
  intro h2 tk2 m2 F2 N2
  refine wpAny_execs_cons ?_
  conv in lwR => whnf
  k_steps
  exact h _ _ _ F2
end
end

section
theorem all_holds : PySem.Challenge.rw_nq0146_01.Holds := by
  w_on
  o_law
  refine PySem.W.holds_open (q := qB) (loose := looseB) (Xt := XtB) (XP := XL qB []) (Yf := (kHook kF kAddr kAddr_is).obs) (Ya := (kHook kF kAddr kAddr_is).val) (YP := (kHook kF kAddr kAddr_is).says) (N := 20000) leftB (kHook kF kAddr kAddr_is).of (kHook kF kAddr kAddr_is).keeps (fun s e => xl_of s (Bool.and_eq_true_iff.mp e).1) XL.keeps (by rfl) (by rfl) (by rfl) (fun s e => recFacts_of (Bool.and_eq_true_iff.mp e).2) (by rfl) (by assumption) (by decide +kernel) ⟨rfl, rfl, rfl, rfl, rfl, by decide +kernel⟩ ?hw ?hc
  case hw => w_witness2
  case hc =>
    w_strict (k_go0)
    rename News _ _ _ _ => N0
    rename Fr _ _ _ _ => F0
    rename Heap.IsList _ _ _ => hl0
    rename IntsAre _ _ => hi0
    rename Top _ _ _ _ _ _ => T0
    rename Frag.In _ _ => X0
    rename Obj.data _ = _ => d3
    have d3' := d3.trans (by rfl : _ = Data.cell none)
    clear d3
    revert d3'
    rename Obj.data _ = _ => d2
    have d2' := d2.trans (by rfl : _ = Data.cell none)
    clear d2
    revert d2'
    rename Obj.data _ = _ => d1
    have d1' := d1.trans (by rfl : _ = Data.cell none)
    clear d1
    intro d2' d3'
    rename ¬ _ < _ => hlen0
    with_unfolding_all refine law_body (fa := _) X0 T0 hl0 hi0 (by omega) F0 N0 d1' d2' d3' (by rfl) ?hE ?hR
    case hE => passes_own
    case hR =>
      intro h5 tk5 m5 F5
      dsimp only
      k_steps
end
end Mine
theorem PySem.Challenge.cw_nq0146_01_holds : PySem.Challenge.rw_nq0146_01.Holds := by
  exact Mine.all_holds
