import PyProof.Rows.All
import Wide.All
import OpenK.AllK
import Wide.FinOn
import KE.KxDecode
import KE.KStateBytes
import KE.KStateText
import KE.KItem
import KE.BitLaws
import KE.KItemAt
import KE.KSetAt
import KE.KBytesCut
import PyProof.Rows.ChunkEnd
import OpenK.KWalk
import KE.RegKIsAll
import KE.KIsBytes
import OpenK.KList
import PyProof.CompFree
import KE.KMod
import PySem.Challenge.RW_ta0038_01
set_option Elab.async false
set_option linter.unusedVariables false
local macro_rules | `(tactic| walk_at $s:str) => `(tactic| k_extra $s)
section P_HeadT
open PySem PySem.W PySem.Calls PyProof.Rows
set_option linter.unusedVariables false
set_option maxRecDepth 100000
namespace Mine
noncomputable def gvn : Given := by
  refine (?g : ∀ m mo pa ab ha gi, PySem.Challenge.pw_ta0038_01 = Program.mk m mo pa ab ha gi → Given) _ _ _ _ _ _ rfl
  exact fun m mo pa ab ha gi _ => gi
noncomputable def msc : Scope := by
  refine (?g : ∀ b s fa fi mo, PySem.Challenge.pw_ta0038_01.main = Module.mk b s fa fi mo → Scope) _ _ _ _ _ rfl
  exact fun b s fa fi mo _ => s
noncomputable def mfu : Bool := by
  refine (?g : ∀ b s fa fi mo, PySem.Challenge.pw_ta0038_01.main = Module.mk b s fa fi mo → Bool) _ _ _ _ _ rfl
  exact fun b s fa fi mo _ => fa
noncomputable def mfi : Str := by
  refine (?g : ∀ b s fa fi mo, PySem.Challenge.pw_ta0038_01.main = Module.mk b s fa fi mo → Str) _ _ _ _ _ rfl
  exact fun b s fa fi mo _ => fi
noncomputable def env0 : Env := { scope := msc, locals := mainNs, globals := mainNs, cells := [], code := .ref 30, frame := some 31 }
noncomputable def cE : Code := .body (behindTheImports PySem.Challenge.pw_ta0038_01) env0
noncomputable def fr0 : List Frame := [topFrame ⟨0, 0, 0, 0⟩]

theorem go_app {tb : String → Option Builtin} {p : Program} {w : World} {n₀ : Nat} {ann : Option Value} {b : Nat} : ∀ {n m : Nat} {s s' : Shared} {t t' : Thread} {r : Shared × Thread}, segGo tb p w n₀ ann b n s t = some (s', t') →
    segGo tb p w n₀ ann b m s' t' = some r → segGo tb p w n₀ ann b (n + m) s t = some r
  | 0, m, s, s', t, t', r, h, k => by
    obtain ⟨rfl, rfl⟩ : s = s' ∧ t = t' := by simpa [segGo] using h
    rw [Nat.zero_add]; exact k
  | n + 1, m, s, s', t, t', r, h, k => by
    rw [show n + 1 + m = n + m + 1 by (first | lia | omega)]
    unfold segGo at h ⊢
    cases he : endAt b t with
    | some f => rw [he] at h; cases h
    | none =>
      rw [he] at h
      cases hk : stepOk n₀ ann t with
      | false => rw [hk] at h; cases h
      | true =>
        rw [hk] at h
        cases hs : step (denote tb) p w s t with
        | halt o s₂ => rw [hs] at h; cases h
        | go s₂ t₂ => rw [hs] at h; exact go_app h k

noncomputable def ExB (w : World) {α : Type} (N : Nat) (m : Sem α) (p : Pos) (s : Shared) (a : α) (p' : Pos) (s' : Shared) : Prop :=
  ∃ n, n ≤ N ∧ ∀ (K : α → Sem Fin) (H : Value → Sem Fin) (gd : Bool → Bool) (lv : List Value → List Value),
    segGo treeTable PySem.Challenge.pw_ta0038_01 w 28 (some (.ref 6)) 1 n s ⟨m.wrap K H gd lv, cE, p, fr0⟩ = some (s', ⟨K a, cE, p', fr0⟩)

section
variable {w : World} {α β : Type} {N M : Nat} {p p' p'' : Pos} {s s' s'' : Shared}
theorem ex_pure {a : α} : ExB w 0 (pure a) p s a p s := ⟨0, Nat.le_refl _, fun K H gd lv => rfl⟩
theorem ex_bind {m : Sem α} {f : α → Sem β} {a : α} {b : β} (x : ExB w N m p s a p' s') (y : ExB w M (f a) p' s' b p'' s'') : ExB w (N + M) (m >>= f) p s b p'' s'' := by
  obtain ⟨n, hn, x⟩ := x
  obtain ⟨k, hk, y⟩ := y
  refine ⟨n + k, Nat.add_le_add hn hk, fun K H gd lv => ?_⟩
  have e : ∀ t : Sem α, (t >>= f).wrap K H gd lv = t.wrap (fun a => (f a).wrap K H gd lv) H gd lv := fun t => by
    show (t.bind f).wrap K H gd lv = _
    induction t <;> first | rfl | (simp only [Sem.bind, Sem.wrap, *])
  rw [e]
  exact go_app (x _ _ _ _) (y _ _ _ _)
theorem ex_le {m : Sem α} {a : α} (x : ExB w N m p s a p' s') (h : N ≤ M) : ExB w M m p s a p' s' := let ⟨n, hn, x⟩ := x; ⟨n, Nat.le_trans hn h, x⟩
theorem ex_keep {m : Sem α} {vs : List Value} {a : α} (x : ExB w N m p s a p' s') : ExB w N (m.keep vs) p s a p' s' := by
  obtain ⟨n, hn, x⟩ := x
  refine ⟨n, hn, fun K H gd lv => ?_⟩
  have e : ∀ t : Sem α, (t.keep vs).wrap K H gd lv = t.wrap K H gd (fun l => lv (vs ++ l)) := fun t => by
    induction t <;> first | rfl | (simp only [Sem.keep, Sem.wrap, *])
  rw [e]; exact x _ _ _ _
theorem ex_holding {m : Sem α} {vs : List Value} {a : α} (x : ExB w N m p s a p' s') : ExB w N (holding vs m) p s a p' s' := by
  unfold holding
  split
  · exact x
  · exact ex_keep x
theorem ex_onRaise {m : Sem α} {h : Value → Sem Unit} {a : α} (x : ExB w N m p s a p' s') : ExB w N (m.onRaise h) p s a p' s' := by
  obtain ⟨n, hn, x⟩ := x
  refine ⟨n, hn, fun K H gd lv => ?_⟩
  have e : ∀ t : Sem α, (t.onRaise h).wrap K H gd lv = t.wrap K (fun e => ((h e).bind fun _ => (.raise e : Sem α)).wrap K H gd lv) gd lv := fun t => by
    induction t <;> first | rfl | (simp only [Sem.onRaise, Sem.wrap, *])
  rw [e]; exact x _ _ _ _
theorem ex_tryCatch {m : Sem α} {h : Value → Sem α} {a : α} (x : ExB w N m p s a p' s') : ExB w N (tryCatch m h) p s a p' s' := by
  obtain ⟨n, hn, x⟩ := x
  refine ⟨n, hn, fun K H gd lv => ?_⟩
  have e : ∀ t : Sem α, (t.tryCatch h).wrap K H gd lv = t.wrap K (fun e => (h e).wrap K H gd lv) (fun _ => gd true) lv := fun t => by
    induction t <;> first | rfl | (simp only [Sem.tryCatch, Sem.wrap, *])
  show segGo _ _ _ _ _ _ _ _ ⟨(Sem.tryCatch m h).wrap K H gd lv, _, _, _⟩ = _
  rw [e]; exact x _ _ _ _
theorem ex_rule {t : String} : ExB w 1 (rule t) p s () p s := ⟨1, Nat.le_refl _, fun K H gd lv => rfl⟩
theorem ex_at {q : Pos} : ExB w 1 (standAt q) p s () q s := ⟨1, Nat.le_refl _, fun K H gd lv => rfl⟩
theorem ex_fresh : ExB w 1 fresh p s s.toks p { s with toks := s.toks + 1 } := ⟨1, Nat.le_refl _, fun K H gd lv => rfl⟩
theorem ex_ask : ExB w 1 ask p s ⟨PySem.Challenge.pw_ta0038_01, w.params⟩ p s := ⟨1, Nat.le_refl _, fun K H gd lv => rfl⟩
theorem ex_alloc {o : Obj} : ExB w 1 (alloc o) p s s.heap.objs.size p { s with heap := s.heap.push o } := ⟨1, Nat.le_refl _, fun K H gd lv => rfl⟩
theorem ex_load {a : Addr} {q : Option Value} {o : Obj} (h : s.heap.get? a = some o) : ExB w 1 (loadPart a q) p s o p s := ⟨1, Nat.le_refl _, fun K H gd lv => by
  show (match step (denote treeTable) PySem.Challenge.pw_ta0038_01 w s ⟨.load a q _, cE, p, fr0⟩ with | .go s' t' => segGo treeTable _ w 28 _ 1 0 s' t' | .halt _ _ => none) = _
  simp only [step, h]; rfl⟩
theorem ex_update {a : Addr} {q : Option Value} {f : Obj → Obj} {o : Obj} (h : s.heap.get? a = some o) (ha : 28 ≤ a) : ExB w 1 (updatePart a q f) p s () p { s with heap := s.heap.update a f } := ⟨1, Nat.le_refl _, fun K H gd lv => by
  have hb : (Nat.ble 28 a || a == mainNs || a == cStatics || some (Value.ref 6) == some (.ref a)) = true := by rw [Nat.ble_eq_true_of_le ha]; rfl
  show (match stepOk 28 (some (.ref 6)) ⟨.update a q f _, cE, p, fr0⟩ with | false => none | true => match step (denote treeTable) PySem.Challenge.pw_ta0038_01 w s ⟨.update a q f _, cE, p, fr0⟩ with | .go s' t' => segGo treeTable _ w 28 _ 1 0 s' t' | .halt _ _ => none) = _
  have hs : stepOk 28 (some (.ref 6)) ⟨.update a q f (fun x => (Sem.pure x : Sem Unit).wrap K H gd lv), cE, p, fr0⟩ = true := hb
  rw [hs]
  simp only [step, h, Option.isSome_some, if_true]; rfl⟩
end
noncomputable def LH (pr : Program) (n : Nat) (w : World) (k : Int) (t : Tok) (K : Value → Sem Fin) (H : Value → Sem Fin) (gd : Bool → Bool) (lv : List Value → List Value) (p : Pos) (st : List Stmt) (e : Env) (h : Heap) (g : Array GenState) (d : Drawn) (tk : Nat) (os : OsState) : Option (Shared × Thread) :=
  segGo treeTable pr w 28 (some (.ref 6)) 1 n ⟨h, g, d, tk, os⟩ ⟨(call (.builtin "int.__hash__") [.int k t]).wrap K H gd lv, .body st e, p, [topFrame ⟨0, 0, 0, 0⟩]⟩
noncomputable def RH (k : Int) (K : Value → Sem Fin) (p : Pos) (st : List Stmt) (e : Env) (h : Heap) (g : Array GenState) (d : Drawn) (tk : Nat) (os : OsState) : Option (Shared × Thread) :=
  some (⟨h, g, d, tk + 1, os⟩, ⟨K (.int (rawHash k) tk), .body st e, p, [topFrame ⟨0, 0, 0, 0⟩]⟩)
theorem LH_self : LH = LH := rfl
name_quick Mine_LH for Mine.LH by Mine.LH_self
theorem hashRun (pr : Program) (w : World) (k : Int) (t : Tok) (K : Value → Sem Fin) (H : Value → Sem Fin) (gd : Bool → Bool) (lv : List Value → List Value) (p : Pos) (st : List Stmt) (e : Env) (h : Heap) (g : Array GenState) (d : Drawn) (tk : Nat) (os : OsState) :
    LH pr 4 w k t K H gd lv p st e h g d tk os = RH k K p st e h g d tk os := by
  rw [PySem.W.Fast.Mine_LH_eq]
  kernel_rfl!

section
variable {w : World} {α β : Type} {N M : Nat} {p p' p'' : Pos} {s s' s'' : Shared}
theorem ex_hashCall {k : Int} {t : Tok} : ExB w 4 (call (.builtin "int.__hash__") [.int k t]) p s (.int (rawHash k) s.toks) p { s with toks := s.toks + 1 } :=
  ⟨4, Nat.le_refl _, fun K H gd lv => hashRun PySem.Challenge.pw_ta0038_01 w k t K H gd lv p (behindTheImports PySem.Challenge.pw_ta0038_01) env0 s.heap s.gens s.drawn s.toks s.os⟩

theorem rawHash_small {k : Int} (h : 0 ≤ k) (h2 : k < 2 ^ 31) : rawHash k = k := by
  have e0 : ((2 ^ 61 - 1 : Nat) : Int) = 2305843009213693951 := rfl
  have e : ((k.natAbs : Int) % ((2 ^ 61 - 1 : Nat) : Int)) = k := by
    have : ((k.natAbs : Nat) : Int) = k := by (first | lia | omega)
    rw [this, e0]
    exact Int.emod_eq_of_lt h (by (first | lia | omega))
  have hn : ¬ k < 0 := by (first | lia | omega)
  have hb : (k == -1) = false := beq_eq_false_iff_ne.mpr (by (first | lia | omega))
  unfold rawHash
  dsimp only
  rw [e]
  simp only [hn, if_false, hb, Bool.false_eq_true]

theorem ex_specialInt {k : Int} {t : Tok} : ExB w 0 (specialOf (.int k t) "__hash__") p s (some (.builtin "int.__hash__")) p s := by
  have e : specialOf (.int k t) "__hash__" = typeLookup (.type "int") "__hash__" := rfl
  rw [e, slot_int_hash.lookup]
  exact ex_pure
theorem ex_ite {c : Prop} [Decidable c] {x y : Sem α} {a : α} (h1 : c → ExB w N x p s a p' s') (h2 : ¬ c → ExB w N y p s a p' s') : ExB w N (if c then x else y) p s a p' s' := by
  split
  · exact h1 (by assumption)
  · exact h2 (by assumption)

theorem ex_boundInt {k : Int} {t : Tok} {refuse : Sem Value} : ExB w 5 (callSpecialIfBoundUnlessNone? (.int k t) "__hash__" refuse) p s (some (.int (rawHash k) s.toks)) p { s with toks := s.toks + 1 } := by
  unfold callSpecialIfBoundUnlessNone? bindSpecialIfBound?
  refine ex_holding ?_
  refine ex_bind (N := 1) (M := 4) (a := some (Value.builtin "int.__hash__", [Value.int k t])) (p' := p) (s' := s) ?_ ?_
  · refine ex_bind (N := 0) (M := 1) ex_specialInt ?_
    dsimp only
    rw [slot_int_hash.bind]
    refine ex_bind (N := 1) (M := 0) ex_ask ?_
    exact ex_ite (fun _ => ex_bind (N := 0) (M := 0) ex_pure ex_pure) fun _ => ex_tryCatch (ex_bind (N := 0) (M := 0) ex_pure ex_pure)
  · show ExB w 4 (if (Value.builtin "int.__hash__" == Value.none) = true then _ else _) p s _ p _
    rw [if_neg (by decide)]
    exact ex_bind (N := 4) (M := 0) ex_hashCall ex_pure

theorem ex_pyHash {k : Int} {t : Tok} (h : 0 ≤ k) (h2 : k < 2 ^ 31) : ExB w 5 (pyHash (.int k t)) p s k p { s with toks := s.toks + 1 } := by
  show ExB w 5 (pyHashByItsType (.int k t)) p s k p { s with toks := s.toks + 1 }
  unfold pyHashByItsType
  have hv : [Value.int k t].any Value.onHeap = false := rfl
  refine ex_bind (N := 0) (M := 5) (a := ()) (p' := p) (s' := s) (by rw [cRoomFor, if_neg (by rw [hv]; exact Bool.false_ne_true)]; exact ex_pure) ?_
  refine ex_bind (N := 0) (M := 5) ex_specialInt ?_
  show ExB w 5 (if (some (Value.builtin "int.__hash__") == some Value.none) = true then _ else _) p s _ p _
  rw [if_neg (by decide)]
  refine ex_bind (N := 0) (M := 5) ex_specialInt ?_
  show ExB w 5 (callSpecialIfBoundUnlessNone? (.int k t) "__hash__" _ >>= _) p s _ p _
  refine ex_bind (N := 5) (M := 0) ex_boundInt ?_
  rw [rawHash_small h h2]
  show ExB w 0 (if (decide (-(2 : Int) ^ 63 ≤ k) && decide (k < 2 ^ 63)) = true then _ else _) p _ _ p _
  rw [if_pos (by rw [decide_eq_true (show -(2:Int)^63 ≤ k by (first | lia | omega)), decide_eq_true (show k < 2^63 by (first | lia | omega))]; rfl)]
  have : (k == -1) = false := beq_eq_false_iff_ne.mpr (by (first | lia | omega))
  rw [this]; exact ex_pure

noncomputable def Off (es : List DictEntry) (h : Int) : Prop := ∀ e ∈ es, e.hash ≠ h
theorem places_nil {es : List DictEntry} {h : Int} (x : Off es h) : placesWithHash es.toArray.size (fun i => es.toArray[i]?.map (·.hash)) h = [] := by
  unfold placesWithHash
  rw [List.filter_eq_nil_iff]
  intro i hi
  have hi' : i < es.length := by simpa using hi
  simp only [List.getElem?_toArray, List.getElem?_eq_getElem hi', Option.map_some, beq_iff_eq, Option.some.injEq]
  exact x _ (List.getElem_mem hi')

theorem ex_dictEntries {d : Addr} {part : Option Value} {es : List DictEntry} {n : Nat} (h : s.heap.get? d = some (dictOf es n)) : ExB w 1 (dictEntries d part) p s es.toArray p s := by
  unfold dictEntries
  exact ex_bind (N := 1) (M := 0) (ex_load h) ex_pure
theorem ex_dictEpoch {d : Addr} {part : Option Value} {es : List DictEntry} {n : Nat} (h : s.heap.get? d = some (dictOf es n)) : ExB w 1 (dictEpoch d part) p s n p s := by
  unfold dictEpoch
  exact ex_bind (N := 1) (M := 0) (ex_load h) ex_pure
theorem ex_dictFind {d : Addr} {k h : Int} {t : Tok} {es : List DictEntry} {n : Nat} (hd : s.heap.get? d = some (dictOf es n)) (x : Off es h) (he : es = [] ∨ True) : ExB w 1 (dictFind d (.int k t) h) p s none p s := by
  unfold dictFind
  refine ex_holding (ex_bind (N := 1) (M := 0) (ex_dictEntries hd) ?_)
  dsimp only
  rw [places_nil x]
  exact ex_pure
theorem ex_keys {d : Addr} {e : DictEntry} {part : Option Value} {es : List DictEntry} {n : Nat} (hd : s.heap.get? d = some (dictOf es n)) (ha : 28 ≤ d) (hz : es.length ≤ 1000)
    : ExB w 3 (updateDictKeys d (·.push e) part) p s () p { s with heap := s.heap.update d (Obj.mapDictKeys (·.push e)) } := by
  unfold updateDictKeys
  refine ex_bind (N := 1) (M := 2) (ex_load hd) ?_
  refine ex_bind (N := 1) (M := 1) (ex_update hd ha) ?_
  unfold lookBehind
  have e1 : (s.heap.update d (Obj.mapDictKeys (·.push e))).get? d = some (dictOf (es ++ [e]) (n + 1)) := by
    rw [Heap.get?_update_self _ hd rfl]; simp [Obj.mapDictKeys]
  refine ex_bind (N := 1) (M := 0) (ex_load e1) ?_
  have e2 : (dictOf (es ++ [e]) (n + 1)).data.pastItsLine = none := by
    show (if (es ++ [e]).toArray.size > sizeLine + 1 then _ else _) = _
    rw [if_neg]
    rw [List.size_toArray, List.length_append, sizeLine_eq]
    simp only [List.length_cons, List.length_nil]; (first | lia | omega)
  rw [e2]
  exact ex_pure
end
noncomputable def lifeZ : Life := {}
noncomputable def mkH (L : List Obj) (o : Obj) (R : List Obj) : Heap := ⟨(L ++ o :: R).toArray, lifeZ⟩
theorem mkH_get {L R : List Obj} {es : List DictEntry} {n : Nat} : (mkH L (dictOf es n) R).get? L.length = some (dictOf es n) := by
  unfold mkH Heap.get?
  simp
theorem mkH_get_last {L R : List Obj} {o : Obj} {es : List DictEntry} {n : Nat} : (mkH L o (R ++ [dictOf es n])).get? (L.length + 1 + R.length) = some (dictOf es n) := by
  unfold mkH Heap.get?
  have : (L ++ o :: (R ++ [dictOf es n]))[L.length + 1 + R.length]? = some (dictOf es n) := by
    rw [List.getElem?_append_right (by (first | lia | omega)), show L.length + 1 + R.length - L.length = R.length + 1 by (first | lia | omega), List.getElem?_cons_succ]
    simp
  simp only [List.getElem?_toArray, this]
theorem mkH_upd {L R : List Obj} {o : Obj} {f : Obj → Obj} : (mkH L o R).update L.length f = mkH L (f o) R := by
  unfold mkH Heap.update
  simp only [Heap.mk.injEq, and_true]
  apply Array.ext_getElem?
  intro i
  simp only [Array.getElem?_modify, List.getElem?_toArray]
  by_cases h : L.length = i
  · subst h; simp
  · rw [if_neg h]
    rcases Nat.lt_or_ge i L.length with h1 | h1
    · rw [List.getElem?_append_left h1, List.getElem?_append_left h1]
    · rw [List.getElem?_append_right h1, List.getElem?_append_right h1]
      obtain ⟨j, hj⟩ : ∃ j, i - L.length = j + 1 := ⟨i - L.length - 1, by (first | lia | omega)⟩
      rw [hj, List.getElem?_cons_succ, List.getElem?_cons_succ]
theorem mkH_push {L R : List Obj} {o x : Obj} : (mkH L o R).push x = mkH L o (R ++ [x]) := by
  unfold mkH Heap.push
  simp
theorem mkH_size {L R : List Obj} {o : Obj} : (mkH L o R).objs.size = L.length + 1 + R.length := by
  unfold mkH
  simp; (first | lia | omega)

abbrev Rowz := List (Int × Str)
noncomputable def ents : Nat → Rowz → List DictEntry
  | _, [] => []
  | tk, y :: r => ⟨y.1, .int y.1 tk, .str y.2 (tk + 1)⟩ :: ents (tk + 3) r
theorem ents_length : ∀ (tk : Nat) (l : Rowz), (ents tk l).length = l.length
  | _, [] => rfl
  | tk, y :: r => by simp [ents, ents_length]
noncomputable def prOf (q : Pos) (y : Int × Str) : Sem Value × Sem Value := (mkInt y.1, do let x ← mkText y.2; standAt q; pure x)
noncomputable def Good (l : Rowz) : Prop := l.Pairwise (fun a b => a.1 < b.1) ∧ ∀ y ∈ l, 0 ≤ y.1 ∧ y.1 < 2 ^ 31
noncomputable def Above (es : List DictEntry) (l : Rowz) : Prop := ∀ e ∈ es, ∀ y ∈ l, e.hash < y.1

section
variable {w : World} {α β : Type} {N M : Nat} {p p' p'' q : Pos} {s s' s'' : Shared} {L R : List Obj} {g : Array GenState} {dr : Drawn} {tk : Nat} {os : OsState}

theorem ex_dictSet {d : Addr} {k : Int} {t : Tok} {v : Value} {es : List DictEntry} {n : Nat} (hd : s.heap.get? d = some (dictOf es n)) (x : Off es k) (ha : 28 ≤ d) (hz : es.length ≤ 1000) (h : 0 ≤ k) (h2 : k < 2 ^ 31) :
    ExB w 10 (dictSet d (.int k t) v) p s () p { s with heap := s.heap.update d (Obj.mapDictKeys (·.push ⟨k, .int k t, v⟩)), toks := s.toks + 1 } := by
  unfold dictSet
  refine ex_holding (ex_bind (N := 5) (M := 5) (ex_pyHash h h2) ?_)
  unfold dictSetHashed
  refine ex_holding (ex_bind (N := 1) (M := 4) (s' := { s with toks := s.toks + 1 }) (ex_dictFind (es := es) (n := n) hd x (.inr trivial)) ?_)
  exact ex_bind (N := 1) (M := 3) ex_rule (ex_keys (s := { s with toks := s.toks + 1 }) (e := ⟨k, .int k t, v⟩) hd ha hz)

theorem push_upd {es : List DictEntry} {n : Nat} {e : DictEntry} : Obj.mapDictKeys (·.push e) (dictOf es n) = dictOf (es ++ [e]) (n + 1) := by simp [Obj.mapDictKeys]

theorem ex_fill {d : Addr} {K : Nat → List DictEntry → Heap} (hg : ∀ n es, (K n es).get? d = some (dictOf es n)) (hu : ∀ n es e, (K n es).update d (Obj.mapDictKeys (·.push e)) = K (n + 1) (es ++ [e])) (ha : 28 ≤ d) :
    ∀ (l : Rowz) (es : List DictEntry) (n tk : Nat) (p : Pos), Good l → Above es l → es.length + l.length ≤ 1000 →
      ExB w (13 * l.length) (forIn (l.map (prOf q)) PUnit.unit fun x __s => (match x with
        | (k, v) => do
          let kv ← k
          let vv ← holding [kv] v
          holding [kv, vv] (dictSet d kv vv)
          pure (ForInStep.yield PUnit.unit) : Sem (ForInStep PUnit))) p ⟨K n es, g, dr, tk, os⟩ PUnit.unit (if l.isEmpty then p else q)
        ⟨K (n + l.length) (es ++ ents tk l), g, dr, tk + 3 * l.length, os⟩
  | [], es, n, tk, p, _, _, _ => by
    rw [ents, List.append_nil]
    exact ex_pure
  | y :: r, es, n, tk, p, hl, hab, hz => by
    have hy := hl.2 y (.head _)
    have hr : Good r := ⟨(List.pairwise_cons.mp hl.1).2, fun z hz => hl.2 z (.tail _ hz)⟩
    have hlt := (List.pairwise_cons.mp hl.1).1
    rw [List.map_cons, List.forIn_cons]
    refine ex_le (ex_bind (N := 13) (M := 13 * r.length) (a := ForInStep.yield PUnit.unit) (p' := q) (s' := ⟨K (n + 1) (es ++ [⟨y.1, .int y.1 tk, .str y.2 (tk + 1)⟩]), g, dr, tk + 3, os⟩) ?_ ?_) (by simp only [List.length_cons]; (first | lia | omega))
    · show ExB w 13 (mkInt y.1 >>= _) p _ _ q _
      refine ex_bind (N := 1) (M := 12) (a := Value.int y.1 tk) (p' := p) (s' := ⟨K n es, g, dr, tk + 1, os⟩) (ex_bind (N := 1) (M := 0) ex_fresh ex_pure) ?_
      refine ex_bind (N := 2) (M := 10) (a := Value.str y.2 (tk + 1)) (p' := q) (s' := ⟨K n es, g, dr, tk + 2, os⟩) (ex_holding ?_) ?_
      · exact ex_bind (N := 1) (M := 1) (a := Value.str y.2 (tk + 1)) (ex_bind (N := 1) (M := 0) ex_fresh ex_pure) (ex_bind (N := 1) (M := 0) ex_at ex_pure)
      · refine ex_bind (N := 10) (M := 0) (a := ()) (p' := q) (s' := ⟨K (n + 1) (es ++ [⟨y.1, .int y.1 tk, .str y.2 (tk + 1)⟩]), g, dr, tk + 3, os⟩) (ex_holding ?_) ex_pure
        have z := ex_dictSet (w := w) (p := q) (s := ⟨K n es, g, dr, tk + 2, os⟩) (d := d) (k := y.1) (t := tk) (v := .str y.2 (tk + 1)) (hg n es) (fun e he => Int.ne_of_lt (hab e he y (.head _))) ha (by simp only [List.length_cons] at hz; (first | lia | omega)) hy.1 hy.2
        rw [hu] at z
        exact z
    · have z := ex_fill hg hu ha r (es ++ [⟨y.1, .int y.1 tk, .str y.2 (tk + 1)⟩]) (n + 1) (tk + 3) q hr (fun e he x hx => by
        rcases List.mem_append.mp he with he | he
        · exact hab e he x (.tail _ hx)
        · rw [List.mem_singleton.mp he]; exact hlt x hx) (by simp only [List.length_append, List.length_cons, List.length_nil] at hz ⊢; (first | lia | omega))
      have e1 : n + 1 + r.length = n + (y :: r).length := by simp only [List.length_cons]; (first | lia | omega)
      have e2 : (es ++ [(⟨y.1, .int y.1 tk, .str y.2 (tk + 1)⟩ : DictEntry)]) ++ ents (tk + 3) r = es ++ ents tk (y :: r) := by simp [ents]
      have e3 : tk + 3 + 3 * r.length = tk + 3 * (y :: r).length := by simp only [List.length_cons]; (first | lia | omega)
      have e4 : (if r.isEmpty = true then q else q) = q := by split <;> rfl
      rw [e1, e2, e3, e4] at z
      exact z
end
theorem pushUpd (H : Heap) (o : Obj) (f : Obj → Obj) : (H.push o).update H.objs.size f = H.push (f o) := by
  obtain ⟨objs, l⟩ := H
  simp only [Heap.push, Heap.update, Heap.mk.injEq, and_true]
  apply Array.ext_getElem?
  intro i
  rw [Array.getElem?_modify, Array.getElem?_push, Array.getElem?_push]
  by_cases h : objs.size = i
  · subst h; simp
  · rw [if_neg h, if_neg (Ne.symm h), if_neg (Ne.symm h)]
section
variable {w : World} {α β : Type} {N M : Nat} {p p' p'' q : Pos} {s s' s'' : Shared} {L R : List Obj} {g : Array GenState} {dr : Drawn} {tk : Nat} {os : OsState}

theorem ex_subDict {H : Heap} {l : Rowz} (hl : Good l) (h1 : 16 ≤ l.length) (h2 : l.length ≤ 17) (ha : 28 ≤ H.objs.size) :
    ExB w 230 (subDict (l.map (prOf q))) p ⟨H, g, dr, tk, os⟩ H.objs.size q ⟨H.push (dictOf (ents tk l) l.length), g, dr, tk + 3 * l.length, os⟩ := by
  unfold subDict
  refine ex_le (ex_bind (N := 1) (M := 13 * l.length + 1) (a := H.objs.size) (p' := p) (s' := ⟨H.push (dictOf [] 0), g, dr, tk, os⟩) ex_alloc ?_) (by (first | lia | omega))
  refine ex_bind (N := 13 * l.length + 1) (M := 0) (a := ()) (p' := q) (s' := ⟨H.push (dictOf (ents tk l) l.length), g, dr, tk + 3 * l.length, os⟩) (ex_holding ?_) ex_pure
  rw [if_neg (by rw [List.length_map]; (first | lia | omega))]
  refine ex_le (ex_bind (N := 1) (M := 13 * l.length) ex_rule ?_) (by (first | lia | omega))
  have z := ex_fill (w := w) (q := q) (g := g) (dr := dr) (os := os) (d := H.objs.size) (K := fun n es => H.push (dictOf es n)) (fun n es => Heap.get?_push_size _ rfl) (fun n es e => by rw [pushUpd, push_upd]) ha l [] 0 tk p hl (fun e he => (nomatch he)) (by simp only [List.length_nil]; (first | lia | omega))
  rw [List.nil_append, Nat.zero_add] at z
  have hne : l.isEmpty = false := by cases l with
    | nil => simp at h1
    | cons => rfl
  rw [hne] at z
  exact ex_bind (N := 13 * l.length) (M := 0) z ex_pure

theorem mk_cls {H : Heap} {d : Addr} {es : List DictEntry} {n : Nat} (h : s.heap.get? d = some (dictOf es n)) : ExB w 1 (typeOf (.ref d)) p s (.type "dict") p s := by
  unfold typeOf
  exact ex_bind (N := 1) (M := 0) (ex_load h) ex_pure

theorem ents_get : ∀ (l : Rowz) (tk i : Nat) (e : DictEntry), (ents tk l)[i]? = some e → ∃ y ∈ l, e.hash = y.1 ∧ ∃ t, e.key = .int y.1 t
  | [], _, _, _, h => by simp [ents] at h
  | y :: r, tk, 0, e, h => by simp only [ents, List.getElem?_cons_zero, Option.some.injEq] at h; subst h; exact ⟨y, .head _, rfl, tk, rfl⟩
  | y :: r, tk, i + 1, e, h => by
    simp only [ents, List.getElem?_cons_succ] at h
    obtain ⟨z, hz, a⟩ := ents_get r _ _ _ h
    exact ⟨z, .tail _ hz, a⟩
theorem ents_pair (l : Rowz) : ∀ (tk : Nat), Good l → (ents tk l).Pairwise (fun a b => a.hash < b.hash) := by
  induction l with
  | nil => intro tk _; exact List.Pairwise.nil
  | cons y r ih =>
    intro tk hg
    refine List.pairwise_cons.mpr ⟨fun e he => ?_, ih (tk + 3) ⟨(List.pairwise_cons.mp hg.1).2, fun z hz => hg.2 z (.tail _ hz)⟩⟩
    obtain ⟨i, hi⟩ := List.getElem?_of_mem he
    obtain ⟨z, hz, a, _⟩ := ents_get _ _ _ _ hi
    rw [a]
    exact (List.pairwise_cons.mp hg.1).1 z hz
theorem ents_sorted {l : Rowz} {tk i j : Nat} {e f : DictEntry} (hg : Good l) (hlt : i < j) (h1 : (ents tk l)[i]? = some e) (h2 : (ents tk l)[j]? = some f) : e.hash < f.hash := by
  obtain ⟨hi, rfl⟩ := List.getElem?_eq_some_iff.mp h1
  obtain ⟨hj, rfl⟩ := List.getElem?_eq_some_iff.mp h2
  exact List.pairwise_iff_getElem.mp (ents_pair l tk hg) i j hi hj hlt

theorem ex_put {d : Addr} {e : DictEntry} {k : Int} {t : Tok} {es : List DictEntry} {n : Nat} (hd : s.heap.get? d = some (dictOf es n)) (hk : e.key = .int k t) (x : Off es e.hash) (ha : 28 ≤ d) (hz : es.length ≤ 1000) :
    ExB w 4 (dictPut d e.hash e.key e.val) p s () p { s with heap := s.heap.update d (Obj.mapDictKeys (·.push ⟨e.hash, e.key, e.val⟩)) } := by
  unfold dictPut
  rw [hk]
  refine ex_bind (N := 1) (M := 3) (ex_dictFind hd x (.inr trivial)) ?_
  exact ex_keys hd ha hz

noncomputable def Keyed (fs : List DictEntry) : Prop := (∀ e ∈ fs, ∃ k t, e.key = .int k t) ∧ fs.Pairwise (fun a b => a.hash < b.hash)
theorem ents_keyed {l : Rowz} {tk : Nat} (h : Good l) : Keyed (ents tk l) := ⟨fun e he => by
  obtain ⟨i, hi⟩ := List.getElem?_of_mem he
  obtain ⟨y, _, _, t, e2⟩ := ents_get _ _ _ _ hi
  exact ⟨_, t, e2⟩, ents_pair l tk h⟩
theorem ex_merge_loop {fs : List DictEntry} {m : Nat} (hl : Keyed fs) : ∀ (c i : Nat) (es : List DictEntry) (n : Nat) (p : Pos), i + c = fs.length → es.length + c ≤ 1000 → (∀ e ∈ es, ∀ j f, i ≤ j → fs[j]? = some f → e.hash < f.hash) → 28 ≤ L.length →
    ExB w (6 * c) (forIn (List.range' i c) PUnit.unit fun i __s => (do
        let __do_lift ← dictEntries (L.length + 1 + R.length)
        match __do_lift[i]? with
          | some e => do
            holding [e.key, e.val] (dictPut L.length e.hash e.key e.val)
            let __do_lift ← dictEpoch (L.length + 1 + R.length)
            if (__do_lift != m) = true then do
                unsupported "dict.changed-during-merge"
                pure (ForInStep.yield PUnit.unit)
              else pure (ForInStep.yield PUnit.unit)
          | x => do
            unsupported "dict.changed-during-merge"
            pure (ForInStep.yield PUnit.unit) : Sem (ForInStep PUnit))) p ⟨mkH L (dictOf es n) (R ++ [dictOf fs m]), g, dr, tk, os⟩ PUnit.unit p
      ⟨mkH L (dictOf (es ++ fs.drop i) (n + c)) (R ++ [dictOf fs m]), g, dr, tk, os⟩
  | 0, i, es, n, p, hi, _, _, _ => by
    have : fs.drop i = [] := List.drop_of_length_le (by (first | lia | omega))
    rw [this, List.append_nil]
    exact ex_pure
  | c + 1, i, es, n, p, hi, hz, hab, ha => by
    have hil : i < fs.length := by (first | lia | omega)
    have he : fs[i]? = some fs[i] := List.getElem?_eq_getElem hil
    obtain ⟨k, t, e2⟩ := hl.1 _ (List.getElem_mem hil)
    rw [List.range'_succ, List.forIn_cons]
    refine ex_le (ex_bind (N := 6) (M := 6 * c) (a := ForInStep.yield PUnit.unit) (p' := p) (s' := ⟨mkH L (dictOf (es ++ [fs[i]]) (n + 1)) (R ++ [dictOf fs m]), g, dr, tk, os⟩) ?_ ?_) (by (first | lia | omega))
    · refine ex_bind (N := 1) (M := 5) (ex_dictEntries mkH_get_last) ?_
      rw [List.getElem?_toArray, he]
      refine ex_bind (N := 4) (M := 1) (a := ()) (p' := p) (s' := ⟨mkH L (dictOf (es ++ [fs[i]]) (n + 1)) (R ++ [dictOf fs m]), g, dr, tk, os⟩) (ex_holding ?_) ?_
      · have z := ex_put (w := w) (p := p) (s := ⟨mkH L (dictOf es n) (R ++ [dictOf fs m]), g, dr, tk, os⟩) (d := L.length) (e := fs[i]) mkH_get e2 (fun e he' => Int.ne_of_lt (hab e he' i _ (Nat.le_refl _) he)) ha (by (first | lia | omega))
        rw [mkH_upd, push_upd] at z
        exact z
      · refine ex_bind (N := 1) (M := 0) (ex_dictEpoch mkH_get_last) ?_
        rw [if_neg (by simp)]
        exact ex_pure
    · have z := ex_merge_loop (m := m) hl c (i + 1) (es ++ [fs[i]]) (n + 1) p (by (first | lia | omega)) (by simp only [List.length_append, List.length_cons, List.length_nil]; (first | lia | omega)) (fun e he' j f hj hf => by
        rcases List.mem_append.mp he' with h | h
        · exact hab e h j f (by (first | lia | omega)) hf
        · rw [List.mem_singleton.mp h]
          obtain ⟨hj', rfl⟩ := List.getElem?_eq_some_iff.mp hf
          exact List.pairwise_iff_getElem.mp hl.2 i j hil hj' (by (first | lia | omega))) ha
      rw [List.append_assoc, show [fs[i]] ++ fs.drop (i + 1) = fs.drop i by rw [List.singleton_append, ← List.drop_eq_getElem_cons hil], show n + 1 + c = n + (c + 1) by (first | lia | omega)] at z
      exact z

noncomputable def entsE : Nat → Rowz → List DictEntry
  | _, [] => []
  | tk, y :: r => ⟨y.1, .int y.1 tk, .str y.2 (tk + 1)⟩ :: entsE (tk + 2) r
noncomputable def valsE : Nat → Rowz → List (Value × Value)
  | _, [] => []
  | tk, y :: r => (.int y.1 tk, .str y.2 (tk + 1)) :: valsE (tk + 2) r
theorem entsE_length : ∀ (tk : Nat) (l : Rowz), (entsE tk l).length = l.length
  | _, [] => rfl
  | tk, y :: r => by simp [entsE, entsE_length]
theorem entsE_mem : ∀ (l : Rowz) (tk : Nat) (e : DictEntry), e ∈ entsE tk l → ∃ y ∈ l, e.hash = y.1 ∧ ∃ t, e.key = .int y.1 t
  | [], _, _, h => by simp [entsE] at h
  | y :: r, tk, e, h => by
    simp only [entsE, List.mem_cons] at h
    rcases h with rfl | h
    · exact ⟨y, .head _, rfl, tk, rfl⟩
    · obtain ⟨z, hz, a⟩ := entsE_mem r _ _ h
      exact ⟨z, .tail _ hz, a⟩
theorem entsE_keyed (l : Rowz) : ∀ (tk : Nat), Good l → Keyed (entsE tk l) := by
  induction l with
  | nil => intro tk _; exact ⟨fun _ h => by simp [entsE] at h, List.Pairwise.nil⟩
  | cons y r ih =>
    intro tk hg
    have hr : Good r := ⟨(List.pairwise_cons.mp hg.1).2, fun z hz => hg.2 z (.tail _ hz)⟩
    refine ⟨fun e he => ?_, List.pairwise_cons.mpr ⟨fun e he => ?_, (ih (tk + 2) hr).2⟩⟩
    · obtain ⟨z, _, _, t, a⟩ := entsE_mem _ _ _ he; exact ⟨_, t, a⟩
    · obtain ⟨z, hz, a, _⟩ := entsE_mem _ _ _ he
      rw [a]; exact (List.pairwise_cons.mp hg.1).1 z hz
theorem ex_evalPairs {H : Heap} : ∀ (l : Rowz) (tk : Nat) (p : Pos), ExB w (3 * l.length) (evalPairs (l.map (prOf q))) p ⟨H, g, dr, tk, os⟩ (valsE tk l) (if l.isEmpty then p else q) ⟨H, g, dr, tk + 2 * l.length, os⟩
  | [], tk, p => ex_pure
  | y :: r, tk, p => by
    rw [List.map_cons]
    unfold evalPairs
    refine ex_le (ex_bind (N := 1) (M := 3 * r.length + 2) (a := Value.int y.1 tk) (p' := p) (s' := ⟨H, g, dr, tk + 1, os⟩) (ex_bind (N := 1) (M := 0) ex_fresh ex_pure) ?_) (by simp only [List.length_cons]; (first | lia | omega))
    refine ex_le (ex_bind (N := 2) (M := 3 * r.length) (a := Value.str y.2 (tk + 1)) (p' := q) (s' := ⟨H, g, dr, tk + 2, os⟩) (ex_holding ?_) ?_) (by (first | lia | omega))
    · exact ex_bind (N := 1) (M := 1) (a := Value.str y.2 (tk + 1)) (ex_bind (N := 1) (M := 0) ex_fresh ex_pure) (ex_bind (N := 1) (M := 0) ex_at ex_pure)
    · have z := ex_evalPairs (H := H) r (tk + 2) q
      have e3 : tk + 2 + 2 * r.length = tk + 2 * (y :: r).length := by simp only [List.length_cons]; (first | lia | omega)
      have e4 : (if r.isEmpty = true then q else q) = q := by split <;> rfl
      rw [e3, e4] at z
      exact ex_bind (N := 3 * r.length) (M := 0) (ex_holding z) ex_pure
theorem ex_fillE {d : Addr} {K : Nat → List DictEntry → Heap} (hg : ∀ n es, (K n es).get? d = some (dictOf es n)) (hu : ∀ n es e, (K n es).update d (Obj.mapDictKeys (·.push e)) = K (n + 1) (es ++ [e])) (ha : 28 ≤ d) :
    ∀ (l : Rowz) (es : List DictEntry) (n t0 tk : Nat), Good l → Above es l → es.length + l.length ≤ 1000 →
      ExB w (10 * l.length) (forIn (valsE t0 l) PUnit.unit fun x __s => (match x with
        | (k, v) => do
          dictSet d k v
          pure (ForInStep.yield PUnit.unit) : Sem (ForInStep PUnit))) p ⟨K n es, g, dr, tk, os⟩ PUnit.unit p
        ⟨K (n + l.length) (es ++ entsE t0 l), g, dr, tk + l.length, os⟩
  | [], es, n, t0, tk, _, _, _ => by
    rw [entsE, List.append_nil]
    exact ex_pure
  | y :: r, es, n, t0, tk, hl, hab, hz => by
    have hy := hl.2 y (.head _)
    have hr : Good r := ⟨(List.pairwise_cons.mp hl.1).2, fun z hz => hl.2 z (.tail _ hz)⟩
    have hlt := (List.pairwise_cons.mp hl.1).1
    unfold valsE
    rw [List.forIn_cons]
    refine ex_le (ex_bind (N := 10) (M := 10 * r.length) (a := ForInStep.yield PUnit.unit) (p' := p) (s' := ⟨K (n + 1) (es ++ [⟨y.1, .int y.1 t0, .str y.2 (t0 + 1)⟩]), g, dr, tk + 1, os⟩) ?_ ?_) (by simp only [List.length_cons]; (first | lia | omega))
    · have z := ex_dictSet (w := w) (p := p) (s := ⟨K n es, g, dr, tk, os⟩) (d := d) (k := y.1) (t := t0) (v := .str y.2 (t0 + 1)) (hg n es) (fun e he => Int.ne_of_lt (hab e he y (.head _))) ha (by simp only [List.length_cons] at hz; (first | lia | omega)) hy.1 hy.2
      rw [hu] at z
      exact ex_bind (N := 10) (M := 0) z ex_pure
    · have z := ex_fillE hg hu ha r (es ++ [⟨y.1, .int y.1 t0, .str y.2 (t0 + 1)⟩]) (n + 1) (t0 + 2) (tk + 1) hr (fun e he x hx => by
        rcases List.mem_append.mp he with he | he
        · exact hab e he x (.tail _ hx)
        · rw [List.mem_singleton.mp he]; exact hlt x hx) (by simp only [List.length_append, List.length_cons, List.length_nil] at hz ⊢; (first | lia | omega))
      have e1 : n + 1 + r.length = n + (y :: r).length := by simp only [List.length_cons]; (first | lia | omega)
      have e2 : (es ++ [(⟨y.1, .int y.1 t0, .str y.2 (t0 + 1)⟩ : DictEntry)]) ++ entsE (t0 + 2) r = es ++ entsE t0 (y :: r) := by simp [entsE]
      have e3 : tk + 1 + r.length = tk + (y :: r).length := by simp only [List.length_cons]; (first | lia | omega)
      rw [e1, e2, e3] at z
      exact z
theorem ex_subDictE {H : Heap} {l : Rowz} (hl : Good l) (h1 : 1 ≤ l.length) (h2 : l.length ≤ 15) (ha : 28 ≤ H.objs.size) :
    ExB w 210 (subDict (l.map (prOf q))) p ⟨H, g, dr, tk, os⟩ H.objs.size q ⟨H.push (dictOf (entsE tk l) l.length), g, dr, tk + 3 * l.length, os⟩ := by
  unfold subDict
  refine ex_le (ex_bind (N := 1) (M := 13 * l.length) (a := H.objs.size) (p' := p) (s' := ⟨H.push (dictOf [] 0), g, dr, tk, os⟩) ex_alloc ?_) (by (first | lia | omega))
  refine ex_bind (N := 13 * l.length) (M := 0) (a := ()) (p' := q) (s' := ⟨H.push (dictOf (entsE tk l) l.length), g, dr, tk + 3 * l.length, os⟩) (ex_holding ?_) ex_pure
  rw [if_pos (by rw [List.length_map]; (first | lia | omega))]
  have hne : l.isEmpty = false := by cases l with
    | nil => simp at h1
    | cons => rfl
  have y := ex_evalPairs (w := w) (q := q) (g := g) (dr := dr) (os := os) (H := H.push (dictOf [] 0)) l tk p
  rw [hne] at y
  refine ex_le (ex_bind (N := 3 * l.length) (M := 10 * l.length) y ?_) (by (first | lia | omega))
  have z := ex_fillE (w := w) (p := q) (g := g) (dr := dr) (os := os) (d := H.objs.size) (K := fun n es => H.push (dictOf es n)) (fun n es => Heap.get?_push_size _ rfl) (fun n es e => by rw [pushUpd, push_upd]) ha l [] 0 tk (tk + 2 * l.length) hl (fun e he => (nomatch he)) (by simp only [List.length_nil]; (first | lia | omega))
  rw [List.nil_append, Nat.zero_add, show tk + 2 * l.length + l.length = tk + 3 * l.length by (first | lia | omega)] at z
  exact ex_holding (ex_bind (N := 10 * l.length) (M := 0) z ex_pure)
end
noncomputable def flushD (run : List (Sem Value × Sem Value)) (main : Option Addr) : Sem (Option Addr) :=
  if run.isEmpty = true then pure main
  else match main with
    | none => do
      let d ← subDict run
      pure (some d)
    | some d => do
      let sub ← holding [Value.ref d] (subDict run)
      (holding [Value.ref d, Value.ref sub] (mergeMapping d (Value.ref sub) false)).onRaise fun x => do
        let _ ← holding [Value.ref d, x] (runValue (Code.builtin "proto.let_go" { }))
        pure ()
      pure (some d)
abbrev DItem := Option (Sem Value) × Sem Value
noncomputable def dispBody (x : DItem) (s : Option Addr × List (Sem Value × Sem Value)) : Sem (ForInStep (Option Addr × List (Sem Value × Sem Value))) :=
  match x with
  | (k, v) => match k with
    | some k =>
      if ((s.2 ++ [(k, v)]).length == 17) = true then do
        let main ← flushD (s.2 ++ [(k, v)]) s.1
        pure (ForInStep.yield (main, []))
      else pure (ForInStep.yield (s.1, s.2 ++ [(k, v)]))
    | none => unsupported "none of ours"
noncomputable def itemOf (q : Pos) (y : Int × Str) : DItem := (some (prOf q y).1, (prOf q y).2)
noncomputable def dispEnd (s : Option Addr × List (Sem Value × Sem Value)) : Sem Value := do
  match ← flushD s.2 s.1 with
  | some d => pure (.ref d)
  | none => newDict

theorem forIn_congr {γ δ : Type} {f f' : γ → δ → Sem (ForInStep δ)} : ∀ (l : List γ) (s : δ), (∀ x ∈ l, ∀ s, f x s = f' x s) → forIn l s f = forIn l s f'
  | [], s, h => rfl
  | x :: r, s, h => by
    rw [List.forIn_cons, List.forIn_cons, h x (.head _)]
    refine bind_congr fun a => ?_
    cases a with
    | done b => rfl
    | yield b => exact forIn_congr r b fun y hy => h y (.tail _ hy)

theorem display_eq (q : Pos) (l : Rowz) : dictDisplay (l.map (itemOf q)) = (forIn (l.map (itemOf q)) ((none, []) : Option Addr × List (Sem Value × Sem Value)) dispBody >>= dispEnd) := by
  unfold dictDisplay
  dsimp only
  have e : ∀ (a b : Sem (Option Addr × List (Sem Value × Sem Value))) (k k' : _ → Sem Value), a = b → (∀ x, k x = k' x) → (a >>= k) = (b >>= k') := fun a b k k' h1 h2 => by rw [h1]; exact bind_congr h2
  refine e _ _ _ _ ?_ fun x => rfl
  refine forIn_congr _ _ fun x hx s => ?_
  obtain ⟨y, _, rfl⟩ := List.mem_map.mp hx
  rfl

theorem chunk_eq (q : Pos) : ∀ (c : Rowz) (rest : List DItem) (m : Option Addr) (run : List (Sem Value × Sem Value)), c ≠ [] → run.length + c.length = 17 →
    forIn (c.map (itemOf q) ++ rest) ((m, run) : Option Addr × List (Sem Value × Sem Value)) dispBody = (flushD (run ++ c.map (prOf q)) m >>= fun m' => forIn rest (m', []) dispBody)
  | [], _, _, _, h, _ => absurd rfl h
  | [y], rest, m, run, _, hn => by
    rw [List.map_cons, List.map_nil, List.cons_append, List.nil_append, List.forIn_cons]
    have hb : dispBody (itemOf q y) (m, run) = (flushD (run ++ [prOf q y]) m >>= fun m' => pure (ForInStep.yield (m', []))) := by
      show (if ((run ++ [prOf q y]).length == 17) = true then _ else _) = _
      rw [if_pos (by simp only [List.length_append, List.length_cons, List.length_nil] at hn ⊢; rw [hn]; rfl)]
    rw [hb, bind_assoc]
    exact bind_congr fun a => rfl
  | y :: z :: c, rest, m, run, _, hn => by
    rw [List.map_cons, List.cons_append, List.forIn_cons]
    have hb : dispBody (itemOf q y) (m, run) = pure (ForInStep.yield (m, run ++ [prOf q y])) := by
      show (if ((run ++ [prOf q y]).length == 17) = true then _ else _) = _
      rw [if_neg (by simp only [List.length_append, List.length_cons, List.length_nil, beq_iff_eq] at hn ⊢; (first | lia | omega))]
    rw [hb]
    have ih := chunk_eq q (z :: c) rest m (run ++ [prOf q y]) (by simp) (by simp only [List.length_append, List.length_cons, List.length_nil] at hn ⊢; (first | lia | omega))
    show forIn ((z :: c).map (itemOf q) ++ rest) (m, run ++ [prOf q y]) dispBody = _
    rw [ih, List.append_assoc]
    rfl
theorem tail_eq (q : Pos) : ∀ (c : Rowz) (m : Option Addr) (run : List (Sem Value × Sem Value)), run.length + c.length < 17 →
    forIn (c.map (itemOf q)) ((m, run) : Option Addr × List (Sem Value × Sem Value)) dispBody = pure (m, run ++ c.map (prOf q))
  | [], m, run, _ => by rw [List.map_nil, List.map_nil, List.append_nil]; rfl
  | y :: c, m, run, hn => by
    rw [List.map_cons, List.forIn_cons]
    have hb : dispBody (itemOf q y) (m, run) = pure (ForInStep.yield (m, run ++ [prOf q y])) := by
      show (if ((run ++ [prOf q y]).length == 17) = true then _ else _) = _
      rw [if_neg (by simp only [List.length_append, List.length_cons, List.length_nil, beq_iff_eq] at hn ⊢; (first | lia | omega))]
    rw [hb]
    have ih := tail_eq q c m (run ++ [prOf q y]) (by simp only [List.length_append, List.length_cons, List.length_nil] at hn ⊢; (first | lia | omega))
    show forIn (c.map (itemOf q)) (m, run ++ [prOf q y]) dispBody = _
    rw [ih, List.append_assoc]
    rfl

section
variable {w : World} {α β : Type} {N M : Nat} {p p' p'' q : Pos} {s s' s'' : Shared} {L R : List Obj} {g : Array GenState} {dr : Drawn} {tk : Nat} {os : OsState}

theorem ex_merge {fs : List DictEntry} {m : Nat} {es : List DictEntry} {n : Nat} (hl : Keyed fs) (hz : es.length + fs.length ≤ 1000) (hne : es ≠ []) (hab : ∀ e ∈ es, ∀ f ∈ fs, e.hash < f.hash) (ha : 28 ≤ L.length) :
    ExB w (6 * fs.length + 9) (mergeMapping L.length (.ref (L.length + 1 + R.length)) false) p ⟨mkH L (dictOf es n) (R ++ [dictOf fs m]), g, dr, tk, os⟩ () p
      ⟨mkH L (dictOf (es ++ fs) (n + fs.length)) (R ++ [dictOf fs m]), g, dr, tk, os⟩ := by
  unfold mergeMapping
  refine ex_le (ex_bind (N := 1) (M := 6 * fs.length + 8) (a := true) (p' := p) (s' := ⟨mkH L (dictOf es n) (R ++ [dictOf fs m]), g, dr, tk, os⟩) ?_ ?_) (by (first | lia | omega))
  · unfold isInstance
    refine ex_bind (N := 1) (M := 0) (mk_cls (H := default) mkH_get_last) ?_
    rw [sub_dict_dict]; exact ex_pure
  · dsimp only
    rw [if_pos rfl]
    refine ex_le (ex_bind (N := 1) (M := 6 * fs.length + 7) (a := some (Value.builtin "dict.__iter__")) (p' := p) (s' := ⟨mkH L (dictOf es n) (R ++ [dictOf fs m]), g, dr, tk, os⟩) ?_ ?_) (by (first | lia | omega))
    · unfold specialOf
      refine ex_bind (N := 1) (M := 0) (mk_cls (H := default) mkH_get_last) ?_
      rw [PySem.F.slot_dict_iter.lookup]; exact ex_pure
    · refine ex_le (ex_bind (N := 0) (M := 6 * fs.length + 7) (a := true) (p' := p) (s' := ⟨mkH L (dictOf es n) (R ++ [dictOf fs m]), g, dr, tk, os⟩) (by
        have : (some (Value.builtin "dict.__iter__") == some (Value.builtin "dict.__iter__")) = true := by decide
        rw [this]; exact ex_pure) ?_) (by (first | lia | omega))
      dsimp only
      rw [if_neg (by have h9 : (L.length + 1 + R.length == sysModules) = false := beq_eq_false_iff_ne.mpr (by show _ ≠ (1 : Nat); (first | lia | omega))
                     rw [h9]; decide)]
      refine ex_le (ex_bind (N := 1) (M := 6 * fs.length + 5) (ex_dictEntries mkH_get) ?_) (by (first | lia | omega))
      have hE : es.toArray.isEmpty = false := by cases es with
        | nil => exact absurd rfl hne
        | cons => rfl
      rw [hE, if_neg (by decide)]
      refine ex_le (ex_bind (N := 1) (M := 6 * fs.length + 4) (ex_dictEntries mkH_get_last) ?_) (by (first | lia | omega))
      refine ex_le (ex_bind (N := 1) (M := 6 * fs.length + 2) (ex_dictEpoch mkH_get_last) ?_) (by (first | lia | omega))
      have z := ex_merge_loop (w := w) (L := L) (R := R) (g := g) (dr := dr) (tk := tk) (os := os) (m := m) hl fs.length 0 es n p (by (first | lia | omega)) hz (fun e he j f _ hf => hab e he f (List.mem_of_getElem? hf)) ha
      rw [List.drop_zero] at z
      have e1 : fs.toArray.size = fs.length := by rw [List.size_toArray]
      rw [e1, List.range_eq_range']
      exact ex_le (ex_bind (N := 6 * fs.length) (M := 0) z ex_pure) (by (first | lia | omega))
end
noncomputable def subs : Nat → List Rowz → List Obj
  | _, [] => []
  | tk, c :: cs => dictOf (ents tk c) 17 :: subs (tk + 51) cs
theorem ents_append : ∀ (a b : Rowz) (tk : Nat), ents tk (a ++ b) = ents tk a ++ ents (tk + 3 * a.length) b
  | [], b, tk => by simp [ents]
  | y :: r, b, tk => by
    have e : tk + 3 + 3 * r.length = tk + 3 * (y :: r).length := by simp only [List.length_cons]; (first | lia | omega)
    simp only [List.cons_append, ents, ents_append r b, e]
theorem Good.left {a b : Rowz} (h : Good (a ++ b)) : Good a := ⟨(List.pairwise_append.mp h.1).1, fun y hy => h.2 y (List.mem_append_left _ hy)⟩
theorem Good.right {a b : Rowz} (h : Good (a ++ b)) : Good b := ⟨(List.pairwise_append.mp h.1).2.1, fun y hy => h.2 y (List.mem_append_right _ hy)⟩
theorem Good.apart {a b : Rowz} (h : Good (a ++ b)) : ∀ x ∈ a, ∀ y ∈ b, x.1 < y.1 := (List.pairwise_append.mp h.1).2.2
theorem ents_mem {l : Rowz} {tk : Nat} {e : DictEntry} (h : e ∈ ents tk l) : ∃ y ∈ l, e.hash = y.1 := by
  obtain ⟨i, hi⟩ := List.getElem?_of_mem h
  obtain ⟨y, hy, a, _⟩ := ents_get _ _ _ _ hi
  exact ⟨y, hy, a⟩
section
variable {w : World} {α β : Type} {N M : Nat} {p p' p'' q : Pos} {s s' s'' : Shared} {L R : List Obj} {g : Array GenState} {dr : Drawn} {tk : Nat} {os : OsState}
theorem ex_flush1 {c : Rowz} (hc : Good c) (h17 : c.length = 17) (ha : 28 ≤ L.length) :
    ExB w 230 (flushD (c.map (prOf q)) none) p ⟨⟨L.toArray, lifeZ⟩, g, dr, tk, os⟩ (some L.length) q ⟨mkH L (dictOf (ents tk c) 17) [], g, dr, tk + 51, os⟩ := by
  unfold flushD
  have hne : (c.map (prOf q)).isEmpty = false := by cases c with
    | nil => simp at h17
    | cons => rfl
  rw [hne, if_neg (by decide)]
  have z := ex_subDict (w := w) (p := p) (q := q) (g := g) (dr := dr) (tk := tk) (os := os) (H := ⟨L.toArray, lifeZ⟩) hc (by (first | lia | omega)) (by (first | lia | omega)) (by simpa using ha)
  rw [h17] at z
  have e1 : (⟨L.toArray, lifeZ⟩ : Heap).push (dictOf (ents tk c) 17) = mkH L (dictOf (ents tk c) 17) [] := by
    simp [Heap.push, mkH]
  have e2 : (⟨L.toArray, lifeZ⟩ : Heap).objs.size = L.length := by simp
  rw [e1, e2] at z
  exact ex_bind (N := 230) (M := 0) z ex_pure
theorem ex_flush2 {c : Rowz} {es : List DictEntry} {n : Nat} (hc : Good c) (h17 : c.length = 17) (hz : es.length + 17 ≤ 1000) (hne : es ≠ []) (hab : ∀ e ∈ es, ∀ y ∈ c, e.hash < y.1) (ha : 28 ≤ L.length) :
    ExB w 350 (flushD (c.map (prOf q)) (some L.length)) p ⟨mkH L (dictOf es n) R, g, dr, tk, os⟩ (some L.length) q ⟨mkH L (dictOf (es ++ ents tk c) (n + 17)) (R ++ [dictOf (ents tk c) 17]), g, dr, tk + 51, os⟩ := by
  unfold flushD
  have hne' : (c.map (prOf q)).isEmpty = false := by cases c with
    | nil => simp at h17
    | cons => rfl
  rw [hne', if_neg (by decide)]
  dsimp only
  have z := ex_subDict (w := w) (p := p) (q := q) (g := g) (dr := dr) (tk := tk) (os := os) (H := mkH L (dictOf es n) R) hc (by (first | lia | omega)) (by (first | lia | omega)) (by rw [mkH_size]; (first | lia | omega))
  rw [h17, mkH_push, mkH_size] at z
  refine ex_bind (N := 230) (M := 120) (ex_holding z) ?_
  have y := ex_merge (w := w) (p := q) (L := L) (R := R) (g := g) (dr := dr) (tk := tk + 3 * 17) (os := os) (fs := ents tk c) (m := 17) (n := n) (ents_keyed hc) (by rw [ents_length]; (first | lia | omega)) hne (fun e he f hf => by
    obtain ⟨x, hx, e1⟩ := ents_mem hf
    rw [e1]; exact hab e he x hx) ha
  rw [ents_length, h17] at y
  exact ex_bind (N := 120) (M := 0) (ex_onRaise (ex_holding (ex_le y (by decide)))) ex_pure
theorem ex_flush3 {c : Rowz} {es : List DictEntry} {n : Nat} (hc : Good c) (h1 : 1 ≤ c.length) (h15 : c.length ≤ 15) (hz : es.length + c.length ≤ 1000) (hne : es ≠ []) (hab : ∀ e ∈ es, ∀ y ∈ c, e.hash < y.1) (ha : 28 ≤ L.length) :
    ExB w 310 (dispEnd (some L.length, c.map (prOf q))) p ⟨mkH L (dictOf es n) R, g, dr, tk, os⟩ (.ref L.length) q ⟨mkH L (dictOf (es ++ entsE tk c) (n + c.length)) (R ++ [dictOf (entsE tk c) c.length]), g, dr, tk + 3 * c.length, os⟩ := by
  unfold dispEnd
  refine ex_bind (N := 310) (M := 0) (a := some L.length) (p' := q) (s' := ⟨mkH L (dictOf (es ++ entsE tk c) (n + c.length)) (R ++ [dictOf (entsE tk c) c.length]), g, dr, tk + 3 * c.length, os⟩) ?_ ex_pure
  unfold flushD
  have hne' : (c.map (prOf q)).isEmpty = false := by cases c with
    | nil => simp at h1
    | cons => rfl
  rw [hne', if_neg (by decide)]
  dsimp only
  have z := ex_subDictE (w := w) (p := p) (q := q) (g := g) (dr := dr) (tk := tk) (os := os) (H := mkH L (dictOf es n) R) hc h1 h15 (by rw [mkH_size]; (first | lia | omega))
  rw [mkH_push, mkH_size] at z
  refine ex_bind (N := 210) (M := 100) (ex_holding z) ?_
  have y := ex_merge (w := w) (p := q) (L := L) (R := R) (g := g) (dr := dr) (tk := tk + 3 * c.length) (os := os) (fs := entsE tk c) (m := c.length) (n := n) (entsE_keyed c tk hc) (by rw [entsE_length]; (first | lia | omega)) hne (fun e he f hf => by
    obtain ⟨x, hx, e1, _⟩ := entsE_mem _ _ _ hf
    rw [e1]; exact hab e he x hx) ha
  rw [entsE_length] at y
  exact ex_bind (N := 100) (M := 0) (ex_onRaise (ex_holding (ex_le y (by (first | lia | omega))))) ex_pure
theorem ex_chunks {rest : List DItem} {b : Option Addr × List (Sem Value × Sem Value)} {s3 : Shared} {N2 : Nat} (ha : 28 ≤ L.length) : ∀ (cs : List Rowz) (es : List DictEntry) (n tk : Nat) (R : List Obj), (∀ c ∈ cs, c.length = 17) → Good cs.flatten → es ≠ [] →
    (∀ e ∈ es, ∀ y ∈ cs.flatten, e.hash < y.1) → es.length + 17 * cs.length ≤ 1000 →
    ExB w N2 (forIn rest ((some L.length, []) : Option Addr × List (Sem Value × Sem Value)) dispBody) q ⟨mkH L (dictOf (es ++ ents tk cs.flatten) (n + 17 * cs.length)) (R ++ subs tk cs), g, dr, tk + 51 * cs.length, os⟩ b q s3 →
    ExB w (350 * cs.length + N2) (forIn (cs.flatten.map (itemOf q) ++ rest) ((some L.length, []) : Option Addr × List (Sem Value × Sem Value)) dispBody) q ⟨mkH L (dictOf es n) R, g, dr, tk, os⟩ b q s3
  | [], es, n, tk, R, _, _, _, _, _, h => by
    simp only [List.flatten_nil, ents, List.append_nil, List.length_nil, Nat.mul_zero, Nat.add_zero, subs, List.map_nil, List.nil_append, Nat.zero_add] at h ⊢
    exact h
  | c :: cs, es, n, tk, R, h17, hg, hne, hab, hz, h => by
    rw [List.flatten_cons] at hg hab h
    have hc := h17 c (.head _)
    have cne : c ≠ [] := by intro e; rw [e] at hc; simp at hc
    rw [List.flatten_cons, List.map_append, List.append_assoc, chunk_eq q c _ _ [] cne (by simpa using hc), List.nil_append]
    have z := ex_flush2 (w := w) (p := q) (q := q) (L := L) (R := R) (g := g) (dr := dr) (tk := tk) (os := os) (n := n) (es := es) hg.left hc (by simp only [List.length_cons] at hz; (first | lia | omega)) hne (fun e he y hy => hab e he y (List.mem_append_left _ hy)) ha
    refine ex_le (ex_bind (N := 350) (M := 350 * cs.length + N2) z ?_) (by simp only [List.length_cons]; (first | lia | omega))
    refine ex_chunks ha cs (es ++ ents tk c) (n + 17) (tk + 51) (R ++ [dictOf (ents tk c) 17]) (fun d hd => h17 d (.tail _ hd)) hg.right (by intro e; exact hne (List.append_eq_nil_iff.mp e).1) (fun e he y hy => ?_) (by simp only [List.length_append, ents_length, List.length_cons] at hz ⊢; (first | lia | omega)) ?_
    · rcases List.mem_append.mp he with he | he
      · exact hab e he y (List.mem_append_right _ hy)
      · obtain ⟨x, hx, e1⟩ := ents_mem he
        rw [e1]; exact hg.apart x hx y hy
    · rw [ents_append, hc] at h
      have e1 : n + 17 + 17 * cs.length = n + 17 * (c :: cs).length := by simp only [List.length_cons]; (first | lia | omega)
      have e2 : tk + 51 + 51 * cs.length = tk + 51 * (c :: cs).length := by simp only [List.length_cons]; (first | lia | omega)
      rw [e1, e2, List.append_assoc, List.append_assoc]
      exact h
theorem ex_display {c0 last : Rowz} {cs : List Rowz} (hg : Good (c0 ++ cs.flatten ++ last)) (h0 : c0.length = 17) (h17 : ∀ c ∈ cs, c.length = 17) (hl : last.length < 17) (hn : cs.length ≤ 50) (ha : 28 ≤ L.length) :
    ExB w (230 + 350 * cs.length) (forIn ((c0 ++ cs.flatten ++ last).map (itemOf q)) ((none, []) : Option Addr × List (Sem Value × Sem Value)) dispBody) p ⟨⟨L.toArray, lifeZ⟩, g, dr, tk, os⟩
      (some L.length, last.map (prOf q)) q ⟨mkH L (dictOf (ents tk (c0 ++ cs.flatten)) (17 + 17 * cs.length)) (subs (tk + 51) cs), g, dr, tk + 51 + 51 * cs.length, os⟩ := by
  have cne : c0 ≠ [] := by intro e; rw [e] at h0; simp at h0
  rw [List.map_append, List.map_append, List.append_assoc, chunk_eq q c0 _ _ [] cne (by simpa using h0), List.nil_append]
  refine ex_bind (N := 230) (M := 350 * cs.length) (ex_flush1 hg.left.left h0 ha) ?_
  refine ex_chunks (N2 := 0) (R := []) ha cs (ents tk c0) 17 (tk + 51) h17 hg.left.right (by
    intro e
    have := ents_length tk c0
    rw [e, h0] at this
    simp at this) (fun e he y hy => ?_) (by rw [ents_length]; (first | lia | omega)) ?_
  · obtain ⟨x, hx, e1⟩ := ents_mem he
    rw [e1]; exact hg.left.apart x hx y hy
  · rw [tail_eq q last _ [] (by simpa using hl), List.nil_append, List.nil_append, ents_append, h0]
    exact ex_pure
end
theorem segRun_mono {tb : String → Option Builtin} {p : Program} {w : World} {n₀ : Nat} {ann : Option Value} {b : Nat} (k : Nat) : ∀ (n : Nat) (s : Shared) (t : Thread) (r : Flow × Shared × Code × Pos), segRun tb p w n₀ ann b n s t = some r → segRun tb p w n₀ ann b (n + k) s t = some r
  | 0, _, _, _, h => by simp [segRun] at h
  | n + 1, s, t, r, h => by
    rw [show n + 1 + k = n + k + 1 by (first | lia | omega)]
    unfold segRun at h ⊢
    cases ht : endAt b t with
    | some f => rw [ht] at h; exact h
    | none =>
      rw [ht] at h
      cases hk : stepOk n₀ ann t with
      | false => rw [hk] at h; cases h
      | true =>
        rw [hk] at h
        cases hs : step (denote tb) p w s t with
        | halt o s' => rw [hs] at h; cases h
        | go s' t' => rw [hs] at h; exact segRun_mono k n s' t' r h
theorem run_bind {w : World} {α β : Type} {m : Sem α} {f : α → Sem β} {p p' : Pos} {s s' : Shared} {a : α} {N n : Nat} {K : β → Sem Fin} {H : Value → Sem Fin} {gd : Bool → Bool} {lv : List Value → List Value} {r : Flow × Shared × Code × Pos}
    (x : ExB w N m p s a p' s') (y : segRun treeTable PySem.Challenge.pw_ta0038_01 w 28 (some (.ref 6)) 1 n s' ⟨(f a).wrap K H gd lv, cE, p', fr0⟩ = some r) :
    segRun treeTable PySem.Challenge.pw_ta0038_01 w 28 (some (.ref 6)) 1 (N + n) s ⟨(m >>= f).wrap K H gd lv, cE, p, fr0⟩ = some r := by
  obtain ⟨k, hk, x⟩ := x
  have e : ∀ t : Sem α, (t >>= f).wrap K H gd lv = t.wrap (fun a => (f a).wrap K H gd lv) H gd lv := fun t => by
    show (t.bind f).wrap K H gd lv = _
    induction t <;> first | rfl | (simp only [Sem.bind, Sem.wrap, *])
  rw [e]
  have z := segRun_mono (N - k) _ _ _ _ (seg_go (x (fun a => (f a).wrap K H gd lv) H gd lv) y)
  rw [show k + n + (N - k) = N + n by (first | lia | omega)] at z
  exact z
noncomputable def goodB : Int → Rowz → Bool
  | _, [] => true
  | k, y :: r => decide (k < y.1) && decide (y.1 < 2 ^ 31) && goodB y.1 r
theorem good_of : ∀ (l : Rowz) (k : Int), goodB k l = true → -1 ≤ k → Good l ∧ ∀ y ∈ l, k < y.1
  | [], k, _, _ => ⟨⟨List.Pairwise.nil, fun _ h => nomatch h⟩, fun _ h => nomatch h⟩
  | y :: r, k, h, hk => by
    simp only [goodB, Bool.and_eq_true, decide_eq_true_eq] at h
    obtain ⟨a, b⟩ := good_of r y.1 h.2 (by (first | lia | omega))
    refine ⟨⟨List.pairwise_cons.mpr ⟨b, a.1⟩, fun z hz => ?_⟩, fun z hz => ?_⟩
    · rcases List.mem_cons.mp hz with rfl | hz
      · exact ⟨by (first | lia | omega), h.1.2⟩
      · exact a.2 z hz
    · rcases List.mem_cons.mp hz with rfl | hz
      · exact h.1.1
      · have := b z hz; (first | lia | omega)

noncomputable def stAt (i : Nat) : Stmt := (PySem.Challenge.pw_ta0038_01.main.body)[i]?.getD (.Pass ⟨0, 0, 0, 0⟩)
noncomputable def cls12 : List Stmt := by
  refine (?g : ∀ n bs ks b d tp sc dk bi bt p, stAt 12 = Stmt.ClassDef n bs ks b d tp sc dk bi bt p → List Stmt) _ _ _ _ _ _ _ _ _ _ _ rfl
  exact fun n bs ks b d tp sc dk bi bt p _ => b
noncomputable def mtAt (i j : Nat) : Stmt := cls12[j]?.getD (.Pass ⟨0, 0, 0, 0⟩)
noncomputable def fnArgs : Stmt → Arguments
  | .FunctionDef _ a _ _ _ _ _ _ _ _ => a
  | _ => ⟨[], [], none, [], [], none, []⟩
noncomputable def fnBody : Stmt → List Stmt
  | .FunctionDef _ _ b _ _ _ _ _ _ _ => b
  | _ => []
noncomputable def fnScope : Stmt → Scope
  | .FunctionDef _ _ _ _ _ _ s _ _ _ => s
  | _ => { kind := .function, names := [], isGenerator := false, isCoroutine := false, more := [] }
noncomputable def dKeys : Stmt → List (Option Expr)
  | .Assign _ (.Dict ks _ _) _ => ks
  | _ => []
noncomputable def dVals : Stmt → List Expr
  | .Assign _ (.Dict _ vs _) _ => vs
  | _ => []
noncomputable def dPos : Stmt → Pos
  | .Assign _ (.Dict _ _ q) _ => q
  | _ => ⟨0, 0, 0, 0⟩
noncomputable def aPos : Stmt → Pos
  | .Assign _ _ q => q
  | _ => ⟨0, 0, 0, 0⟩
noncomputable def aTargets : Stmt → List Expr
  | .Assign ts _ _ => ts
  | _ => []
noncomputable def aValue : Stmt → Expr
  | .Assign _ v _ => v
  | _ => .Constant .none 0 ⟨0, 0, 0, 0⟩
noncomputable def keyOf : Option Expr → Int
  | some (.Constant (.int i) _ _) => i
  | _ => 0
noncomputable def valOf : Expr → Str
  | .Constant (.str s) _ _ => s
  | _ => Str.empty
noncomputable def rowz : Rowz := ((dKeys (stAt 21)).map keyOf).zip ((dVals (stAt 21)).map valOf)
noncomputable def ar1 : Arguments := by
  refine (?g : ∀ n a b d r tp sc dk bi p, stAt 1 = Stmt.FunctionDef n a b d r tp sc dk bi p → Arguments) _ _ _ _ _ _ _ _ _ _ rfl
  exact fun n a b d r tp sc dk bi p _ => a
noncomputable def sc1 : Scope := by
  refine (?g : ∀ n a b d r tp sc dk bi p, stAt 1 = Stmt.FunctionDef n a b d r tp sc dk bi p → Scope) _ _ _ _ _ _ _ _ _ _ rfl
  exact fun n a b d r tp sc dk bi p _ => sc
noncomputable def sk1 (T M : Nat → Stmt) : Stmt := by
  refine (?g : ∀ n a b d r tp sc dk bi p, stAt 1 = Stmt.FunctionDef n a b d r tp sc dk bi p → Stmt) _ _ _ _ _ _ _ _ _ _ rfl
  exact fun n a b d r tp sc dk bi p _ => Stmt.FunctionDef n ar1 (fnBody (T 1)) d r tp sc1 dk bi p
noncomputable def ar4 : Arguments := by
  refine (?g : ∀ n a b d r tp sc dk bi p, stAt 4 = Stmt.FunctionDef n a b d r tp sc dk bi p → Arguments) _ _ _ _ _ _ _ _ _ _ rfl
  exact fun n a b d r tp sc dk bi p _ => a
noncomputable def sc4 : Scope := by
  refine (?g : ∀ n a b d r tp sc dk bi p, stAt 4 = Stmt.FunctionDef n a b d r tp sc dk bi p → Scope) _ _ _ _ _ _ _ _ _ _ rfl
  exact fun n a b d r tp sc dk bi p _ => sc
noncomputable def sk4 (T M : Nat → Stmt) : Stmt := by
  refine (?g : ∀ n a b d r tp sc dk bi p, stAt 4 = Stmt.FunctionDef n a b d r tp sc dk bi p → Stmt) _ _ _ _ _ _ _ _ _ _ rfl
  exact fun n a b d r tp sc dk bi p _ => Stmt.FunctionDef n ar4 (fnBody (T 4)) d r tp sc4 dk bi p
noncomputable def ar5 : Arguments := by
  refine (?g : ∀ n a b d r tp sc dk bi p, stAt 5 = Stmt.FunctionDef n a b d r tp sc dk bi p → Arguments) _ _ _ _ _ _ _ _ _ _ rfl
  exact fun n a b d r tp sc dk bi p _ => a
noncomputable def sc5 : Scope := by
  refine (?g : ∀ n a b d r tp sc dk bi p, stAt 5 = Stmt.FunctionDef n a b d r tp sc dk bi p → Scope) _ _ _ _ _ _ _ _ _ _ rfl
  exact fun n a b d r tp sc dk bi p _ => sc
noncomputable def sk5 (T M : Nat → Stmt) : Stmt := by
  refine (?g : ∀ n a b d r tp sc dk bi p, stAt 5 = Stmt.FunctionDef n a b d r tp sc dk bi p → Stmt) _ _ _ _ _ _ _ _ _ _ rfl
  exact fun n a b d r tp sc dk bi p _ => Stmt.FunctionDef n ar5 (fnBody (T 5)) d r tp sc5 dk bi p
noncomputable def ar6 : Arguments := by
  refine (?g : ∀ n a b d r tp sc dk bi p, stAt 6 = Stmt.FunctionDef n a b d r tp sc dk bi p → Arguments) _ _ _ _ _ _ _ _ _ _ rfl
  exact fun n a b d r tp sc dk bi p _ => a
noncomputable def sc6 : Scope := by
  refine (?g : ∀ n a b d r tp sc dk bi p, stAt 6 = Stmt.FunctionDef n a b d r tp sc dk bi p → Scope) _ _ _ _ _ _ _ _ _ _ rfl
  exact fun n a b d r tp sc dk bi p _ => sc
noncomputable def sk6 (T M : Nat → Stmt) : Stmt := by
  refine (?g : ∀ n a b d r tp sc dk bi p, stAt 6 = Stmt.FunctionDef n a b d r tp sc dk bi p → Stmt) _ _ _ _ _ _ _ _ _ _ rfl
  exact fun n a b d r tp sc dk bi p _ => Stmt.FunctionDef n ar6 (fnBody (T 6)) d r tp sc6 dk bi p
noncomputable def ar8 : Arguments := by
  refine (?g : ∀ n a b d r tp sc dk bi p, stAt 8 = Stmt.FunctionDef n a b d r tp sc dk bi p → Arguments) _ _ _ _ _ _ _ _ _ _ rfl
  exact fun n a b d r tp sc dk bi p _ => a
noncomputable def sc8 : Scope := by
  refine (?g : ∀ n a b d r tp sc dk bi p, stAt 8 = Stmt.FunctionDef n a b d r tp sc dk bi p → Scope) _ _ _ _ _ _ _ _ _ _ rfl
  exact fun n a b d r tp sc dk bi p _ => sc
noncomputable def sk8 (T M : Nat → Stmt) : Stmt := by
  refine (?g : ∀ n a b d r tp sc dk bi p, stAt 8 = Stmt.FunctionDef n a b d r tp sc dk bi p → Stmt) _ _ _ _ _ _ _ _ _ _ rfl
  exact fun n a b d r tp sc dk bi p _ => Stmt.FunctionDef n ar8 (fnBody (T 8)) d r tp sc8 dk bi p
noncomputable def ar9 : Arguments := by
  refine (?g : ∀ n a b d r tp sc dk bi p, stAt 9 = Stmt.FunctionDef n a b d r tp sc dk bi p → Arguments) _ _ _ _ _ _ _ _ _ _ rfl
  exact fun n a b d r tp sc dk bi p _ => a
noncomputable def sc9 : Scope := by
  refine (?g : ∀ n a b d r tp sc dk bi p, stAt 9 = Stmt.FunctionDef n a b d r tp sc dk bi p → Scope) _ _ _ _ _ _ _ _ _ _ rfl
  exact fun n a b d r tp sc dk bi p _ => sc
noncomputable def sk9 (T M : Nat → Stmt) : Stmt := by
  refine (?g : ∀ n a b d r tp sc dk bi p, stAt 9 = Stmt.FunctionDef n a b d r tp sc dk bi p → Stmt) _ _ _ _ _ _ _ _ _ _ rfl
  exact fun n a b d r tp sc dk bi p _ => Stmt.FunctionDef n ar9 (fnBody (T 9)) d r tp sc9 dk bi p
noncomputable def ar10 : Arguments := by
  refine (?g : ∀ n a b d r tp sc dk bi p, stAt 10 = Stmt.FunctionDef n a b d r tp sc dk bi p → Arguments) _ _ _ _ _ _ _ _ _ _ rfl
  exact fun n a b d r tp sc dk bi p _ => a
noncomputable def sc10 : Scope := by
  refine (?g : ∀ n a b d r tp sc dk bi p, stAt 10 = Stmt.FunctionDef n a b d r tp sc dk bi p → Scope) _ _ _ _ _ _ _ _ _ _ rfl
  exact fun n a b d r tp sc dk bi p _ => sc
noncomputable def sk10 (T M : Nat → Stmt) : Stmt := by
  refine (?g : ∀ n a b d r tp sc dk bi p, stAt 10 = Stmt.FunctionDef n a b d r tp sc dk bi p → Stmt) _ _ _ _ _ _ _ _ _ _ rfl
  exact fun n a b d r tp sc dk bi p _ => Stmt.FunctionDef n ar10 (fnBody (T 10)) d r tp sc10 dk bi p
noncomputable def ar17 : Arguments := by
  refine (?g : ∀ n a b d r tp sc dk bi p, stAt 17 = Stmt.FunctionDef n a b d r tp sc dk bi p → Arguments) _ _ _ _ _ _ _ _ _ _ rfl
  exact fun n a b d r tp sc dk bi p _ => a
noncomputable def sc17 : Scope := by
  refine (?g : ∀ n a b d r tp sc dk bi p, stAt 17 = Stmt.FunctionDef n a b d r tp sc dk bi p → Scope) _ _ _ _ _ _ _ _ _ _ rfl
  exact fun n a b d r tp sc dk bi p _ => sc
noncomputable def sk17 (T M : Nat → Stmt) : Stmt := by
  refine (?g : ∀ n a b d r tp sc dk bi p, stAt 17 = Stmt.FunctionDef n a b d r tp sc dk bi p → Stmt) _ _ _ _ _ _ _ _ _ _ rfl
  exact fun n a b d r tp sc dk bi p _ => Stmt.FunctionDef n ar17 (fnBody (T 17)) d r tp sc17 dk bi p
noncomputable def ar20 : Arguments := by
  refine (?g : ∀ n a b d r tp sc dk bi p, stAt 20 = Stmt.FunctionDef n a b d r tp sc dk bi p → Arguments) _ _ _ _ _ _ _ _ _ _ rfl
  exact fun n a b d r tp sc dk bi p _ => a
noncomputable def sc20 : Scope := by
  refine (?g : ∀ n a b d r tp sc dk bi p, stAt 20 = Stmt.FunctionDef n a b d r tp sc dk bi p → Scope) _ _ _ _ _ _ _ _ _ _ rfl
  exact fun n a b d r tp sc dk bi p _ => sc
noncomputable def sk20 (T M : Nat → Stmt) : Stmt := by
  refine (?g : ∀ n a b d r tp sc dk bi p, stAt 20 = Stmt.FunctionDef n a b d r tp sc dk bi p → Stmt) _ _ _ _ _ _ _ _ _ _ rfl
  exact fun n a b d r tp sc dk bi p _ => Stmt.FunctionDef n ar20 (fnBody (T 20)) d r tp sc20 dk bi p
noncomputable def ar22 : Arguments := by
  refine (?g : ∀ n a b d r tp sc dk bi p, stAt 22 = Stmt.FunctionDef n a b d r tp sc dk bi p → Arguments) _ _ _ _ _ _ _ _ _ _ rfl
  exact fun n a b d r tp sc dk bi p _ => a
noncomputable def sc22 : Scope := by
  refine (?g : ∀ n a b d r tp sc dk bi p, stAt 22 = Stmt.FunctionDef n a b d r tp sc dk bi p → Scope) _ _ _ _ _ _ _ _ _ _ rfl
  exact fun n a b d r tp sc dk bi p _ => sc
noncomputable def sk22 (T M : Nat → Stmt) : Stmt := by
  refine (?g : ∀ n a b d r tp sc dk bi p, stAt 22 = Stmt.FunctionDef n a b d r tp sc dk bi p → Stmt) _ _ _ _ _ _ _ _ _ _ rfl
  exact fun n a b d r tp sc dk bi p _ => Stmt.FunctionDef n ar22 (fnBody (T 22)) d r tp sc22 dk bi p
noncomputable def ar24 : Arguments := by
  refine (?g : ∀ n a b d r tp sc dk bi p, stAt 24 = Stmt.FunctionDef n a b d r tp sc dk bi p → Arguments) _ _ _ _ _ _ _ _ _ _ rfl
  exact fun n a b d r tp sc dk bi p _ => a
noncomputable def sc24 : Scope := by
  refine (?g : ∀ n a b d r tp sc dk bi p, stAt 24 = Stmt.FunctionDef n a b d r tp sc dk bi p → Scope) _ _ _ _ _ _ _ _ _ _ rfl
  exact fun n a b d r tp sc dk bi p _ => sc
noncomputable def sk24 (T M : Nat → Stmt) : Stmt := by
  refine (?g : ∀ n a b d r tp sc dk bi p, stAt 24 = Stmt.FunctionDef n a b d r tp sc dk bi p → Stmt) _ _ _ _ _ _ _ _ _ _ rfl
  exact fun n a b d r tp sc dk bi p _ => Stmt.FunctionDef n ar24 (fnBody (T 24)) d r tp sc24 dk bi p
noncomputable def ar25 : Arguments := by
  refine (?g : ∀ n a b d r tp sc dk bi p, stAt 25 = Stmt.FunctionDef n a b d r tp sc dk bi p → Arguments) _ _ _ _ _ _ _ _ _ _ rfl
  exact fun n a b d r tp sc dk bi p _ => a
noncomputable def sc25 : Scope := by
  refine (?g : ∀ n a b d r tp sc dk bi p, stAt 25 = Stmt.FunctionDef n a b d r tp sc dk bi p → Scope) _ _ _ _ _ _ _ _ _ _ rfl
  exact fun n a b d r tp sc dk bi p _ => sc
noncomputable def sk25 (T M : Nat → Stmt) : Stmt := by
  refine (?g : ∀ n a b d r tp sc dk bi p, stAt 25 = Stmt.FunctionDef n a b d r tp sc dk bi p → Stmt) _ _ _ _ _ _ _ _ _ _ rfl
  exact fun n a b d r tp sc dk bi p _ => Stmt.FunctionDef n ar25 (fnBody (T 25)) d r tp sc25 dk bi p
noncomputable def ar26 : Arguments := by
  refine (?g : ∀ n a b d r tp sc dk bi p, stAt 26 = Stmt.FunctionDef n a b d r tp sc dk bi p → Arguments) _ _ _ _ _ _ _ _ _ _ rfl
  exact fun n a b d r tp sc dk bi p _ => a
noncomputable def sc26 : Scope := by
  refine (?g : ∀ n a b d r tp sc dk bi p, stAt 26 = Stmt.FunctionDef n a b d r tp sc dk bi p → Scope) _ _ _ _ _ _ _ _ _ _ rfl
  exact fun n a b d r tp sc dk bi p _ => sc
noncomputable def sk26 (T M : Nat → Stmt) : Stmt := by
  refine (?g : ∀ n a b d r tp sc dk bi p, stAt 26 = Stmt.FunctionDef n a b d r tp sc dk bi p → Stmt) _ _ _ _ _ _ _ _ _ _ rfl
  exact fun n a b d r tp sc dk bi p _ => Stmt.FunctionDef n ar26 (fnBody (T 26)) d r tp sc26 dk bi p
noncomputable def ar27 : Arguments := by
  refine (?g : ∀ n a b d r tp sc dk bi p, stAt 27 = Stmt.FunctionDef n a b d r tp sc dk bi p → Arguments) _ _ _ _ _ _ _ _ _ _ rfl
  exact fun n a b d r tp sc dk bi p _ => a
noncomputable def sc27 : Scope := by
  refine (?g : ∀ n a b d r tp sc dk bi p, stAt 27 = Stmt.FunctionDef n a b d r tp sc dk bi p → Scope) _ _ _ _ _ _ _ _ _ _ rfl
  exact fun n a b d r tp sc dk bi p _ => sc
noncomputable def sk27 (T M : Nat → Stmt) : Stmt := by
  refine (?g : ∀ n a b d r tp sc dk bi p, stAt 27 = Stmt.FunctionDef n a b d r tp sc dk bi p → Stmt) _ _ _ _ _ _ _ _ _ _ rfl
  exact fun n a b d r tp sc dk bi p _ => Stmt.FunctionDef n ar27 (fnBody (T 27)) d r tp sc27 dk bi p
noncomputable def ar28 : Arguments := by
  refine (?g : ∀ n a b d r tp sc dk bi p, stAt 28 = Stmt.FunctionDef n a b d r tp sc dk bi p → Arguments) _ _ _ _ _ _ _ _ _ _ rfl
  exact fun n a b d r tp sc dk bi p _ => a
noncomputable def sc28 : Scope := by
  refine (?g : ∀ n a b d r tp sc dk bi p, stAt 28 = Stmt.FunctionDef n a b d r tp sc dk bi p → Scope) _ _ _ _ _ _ _ _ _ _ rfl
  exact fun n a b d r tp sc dk bi p _ => sc
noncomputable def sk28 (T M : Nat → Stmt) : Stmt := by
  refine (?g : ∀ n a b d r tp sc dk bi p, stAt 28 = Stmt.FunctionDef n a b d r tp sc dk bi p → Stmt) _ _ _ _ _ _ _ _ _ _ rfl
  exact fun n a b d r tp sc dk bi p _ => Stmt.FunctionDef n ar28 (fnBody (T 28)) d r tp sc28 dk bi p
noncomputable def ar29 : Arguments := by
  refine (?g : ∀ n a b d r tp sc dk bi p, stAt 29 = Stmt.FunctionDef n a b d r tp sc dk bi p → Arguments) _ _ _ _ _ _ _ _ _ _ rfl
  exact fun n a b d r tp sc dk bi p _ => a
noncomputable def sc29 : Scope := by
  refine (?g : ∀ n a b d r tp sc dk bi p, stAt 29 = Stmt.FunctionDef n a b d r tp sc dk bi p → Scope) _ _ _ _ _ _ _ _ _ _ rfl
  exact fun n a b d r tp sc dk bi p _ => sc
noncomputable def sk29 (T M : Nat → Stmt) : Stmt := by
  refine (?g : ∀ n a b d r tp sc dk bi p, stAt 29 = Stmt.FunctionDef n a b d r tp sc dk bi p → Stmt) _ _ _ _ _ _ _ _ _ _ rfl
  exact fun n a b d r tp sc dk bi p _ => Stmt.FunctionDef n ar29 (fnBody (T 29)) d r tp sc29 dk bi p
noncomputable def am0 : Arguments := by
  refine (?g : ∀ n a b d r tp sc dk bi p, mtAt 12 0 = Stmt.FunctionDef n a b d r tp sc dk bi p → Arguments) _ _ _ _ _ _ _ _ _ _ rfl
  exact fun n a b d r tp sc dk bi p _ => a
noncomputable def sm0 : Scope := by
  refine (?g : ∀ n a b d r tp sc dk bi p, mtAt 12 0 = Stmt.FunctionDef n a b d r tp sc dk bi p → Scope) _ _ _ _ _ _ _ _ _ _ rfl
  exact fun n a b d r tp sc dk bi p _ => sc
noncomputable def skm0 (M : Nat → Stmt) : Stmt := by
  refine (?g : ∀ n a b d r tp sc dk bi p, mtAt 12 0 = Stmt.FunctionDef n a b d r tp sc dk bi p → Stmt) _ _ _ _ _ _ _ _ _ _ rfl
  exact fun n a b d r tp sc dk bi p _ => Stmt.FunctionDef n am0 (fnBody (M 0)) d r tp sm0 dk bi p
noncomputable def am1 : Arguments := by
  refine (?g : ∀ n a b d r tp sc dk bi p, mtAt 12 1 = Stmt.FunctionDef n a b d r tp sc dk bi p → Arguments) _ _ _ _ _ _ _ _ _ _ rfl
  exact fun n a b d r tp sc dk bi p _ => a
noncomputable def sm1 : Scope := by
  refine (?g : ∀ n a b d r tp sc dk bi p, mtAt 12 1 = Stmt.FunctionDef n a b d r tp sc dk bi p → Scope) _ _ _ _ _ _ _ _ _ _ rfl
  exact fun n a b d r tp sc dk bi p _ => sc
noncomputable def skm1 (M : Nat → Stmt) : Stmt := by
  refine (?g : ∀ n a b d r tp sc dk bi p, mtAt 12 1 = Stmt.FunctionDef n a b d r tp sc dk bi p → Stmt) _ _ _ _ _ _ _ _ _ _ rfl
  exact fun n a b d r tp sc dk bi p _ => Stmt.FunctionDef n am1 (fnBody (M 1)) d r tp sm1 dk bi p
noncomputable def am2 : Arguments := by
  refine (?g : ∀ n a b d r tp sc dk bi p, mtAt 12 2 = Stmt.FunctionDef n a b d r tp sc dk bi p → Arguments) _ _ _ _ _ _ _ _ _ _ rfl
  exact fun n a b d r tp sc dk bi p _ => a
noncomputable def sm2 : Scope := by
  refine (?g : ∀ n a b d r tp sc dk bi p, mtAt 12 2 = Stmt.FunctionDef n a b d r tp sc dk bi p → Scope) _ _ _ _ _ _ _ _ _ _ rfl
  exact fun n a b d r tp sc dk bi p _ => sc
noncomputable def skm2 (M : Nat → Stmt) : Stmt := by
  refine (?g : ∀ n a b d r tp sc dk bi p, mtAt 12 2 = Stmt.FunctionDef n a b d r tp sc dk bi p → Stmt) _ _ _ _ _ _ _ _ _ _ rfl
  exact fun n a b d r tp sc dk bi p _ => Stmt.FunctionDef n am2 (fnBody (M 2)) d r tp sm2 dk bi p
noncomputable def am3 : Arguments := by
  refine (?g : ∀ n a b d r tp sc dk bi p, mtAt 12 3 = Stmt.FunctionDef n a b d r tp sc dk bi p → Arguments) _ _ _ _ _ _ _ _ _ _ rfl
  exact fun n a b d r tp sc dk bi p _ => a
noncomputable def sm3 : Scope := by
  refine (?g : ∀ n a b d r tp sc dk bi p, mtAt 12 3 = Stmt.FunctionDef n a b d r tp sc dk bi p → Scope) _ _ _ _ _ _ _ _ _ _ rfl
  exact fun n a b d r tp sc dk bi p _ => sc
noncomputable def skm3 (M : Nat → Stmt) : Stmt := by
  refine (?g : ∀ n a b d r tp sc dk bi p, mtAt 12 3 = Stmt.FunctionDef n a b d r tp sc dk bi p → Stmt) _ _ _ _ _ _ _ _ _ _ rfl
  exact fun n a b d r tp sc dk bi p _ => Stmt.FunctionDef n am3 (fnBody (M 3)) d r tp sm3 dk bi p
noncomputable def sk2 (T M : Nat → Stmt) : Stmt := by
  refine (?g : ∀ t v p, stAt 2 = Stmt.Assign t v p → Stmt) _ _ _ rfl
  exact fun t v p _ => Stmt.Assign t v p
noncomputable def sk7 (T M : Nat → Stmt) : Stmt := by
  refine (?g : ∀ t v p, stAt 7 = Stmt.Assign t v p → Stmt) _ _ _ rfl
  exact fun t v p _ => Stmt.Assign t v p
noncomputable def sk11 (T M : Nat → Stmt) : Stmt := by
  refine (?g : ∀ t v p, stAt 11 = Stmt.Assign t v p → Stmt) _ _ _ rfl
  exact fun t v p _ => Stmt.Assign t v p
noncomputable def sk13 (T M : Nat → Stmt) : Stmt := by
  refine (?g : ∀ t v p, stAt 13 = Stmt.Assign t v p → Stmt) _ _ _ rfl
  exact fun t v p _ => Stmt.Assign t v p
noncomputable def sk14 (T M : Nat → Stmt) : Stmt := by
  refine (?g : ∀ t v p, stAt 14 = Stmt.Assign t v p → Stmt) _ _ _ rfl
  exact fun t v p _ => Stmt.Assign t v p
noncomputable def sk15 (T M : Nat → Stmt) : Stmt := by
  refine (?g : ∀ t v p, stAt 15 = Stmt.Assign t v p → Stmt) _ _ _ rfl
  exact fun t v p _ => Stmt.Assign t v p
noncomputable def sk16 (T M : Nat → Stmt) : Stmt := by
  refine (?g : ∀ t v p, stAt 16 = Stmt.Assign t v p → Stmt) _ _ _ rfl
  exact fun t v p _ => Stmt.Assign t v p
noncomputable def sk18 (T M : Nat → Stmt) : Stmt := by
  refine (?g : ∀ t v p, stAt 18 = Stmt.Assign t v p → Stmt) _ _ _ rfl
  exact fun t v p _ => Stmt.Assign t v p
noncomputable def sk19 (T M : Nat → Stmt) : Stmt := by
  refine (?g : ∀ t v p, stAt 19 = Stmt.Assign t v p → Stmt) _ _ _ rfl
  exact fun t v p _ => Stmt.Assign t v p
noncomputable def sk23 (T M : Nat → Stmt) : Stmt := by
  refine (?g : ∀ t v p, stAt 23 = Stmt.Assign t v p → Stmt) _ _ _ rfl
  exact fun t v p _ => Stmt.Assign t v p
noncomputable def sk3 (T M : Nat → Stmt) : Stmt := by
  refine (?g : ∀ n bs ks b d tp sc dk bi bt p, stAt 3 = Stmt.ClassDef n bs ks b d tp sc dk bi bt p → Stmt) _ _ _ _ _ _ _ _ _ _ _ rfl
  exact fun n bs ks b d tp sc dk bi bt p _ => Stmt.ClassDef n bs ks b d tp sc dk bi bt p
noncomputable def sk12 (T M : Nat → Stmt) : Stmt := by
  refine (?g : ∀ n bs ks b d tp sc dk bi bt p, stAt 12 = Stmt.ClassDef n bs ks b d tp sc dk bi bt p → Stmt) _ _ _ _ _ _ _ _ _ _ _ rfl
  exact fun n bs ks b d tp sc dk bi bt p _ => Stmt.ClassDef n bs ks [skm0 M, skm1 M, skm2 M, skm3 M] d tp sc dk bi bt p
noncomputable def sk0 : Stmt := by
  refine (?g : ∀ n p, stAt 0 = Stmt.Import n p → Stmt) _ _ rfl
  exact fun n p _ => Stmt.Import n p
noncomputable def tg21 : List Expr := by
  refine (?g : ∀ t v p, stAt 21 = Stmt.Assign t v p → List Expr) _ _ _ rfl
  exact fun t v p _ => t
noncomputable def pv (T M : Nat → Stmt) (R : List Stmt) : Program := ⟨⟨sk0 :: sk1 T M :: R, msc, mfu, mfi, []⟩, [], [], [], [], gvn⟩
noncomputable def cV (T M : Nat → Stmt) (R : List Stmt) : Code := .body (sk1 T M :: R) env0
noncomputable def opn : Program := ⟨⟨[sk0], msc, mfu, mfi, []⟩, [], [], [], [], gvn⟩
noncomputable def mt : Nat → Stmt := mtAt 12
noncomputable def R0 : List Stmt := PySem.Challenge.pw_ta0038_01.main.body.drop 2
theorem pv_eq : pv stAt mt R0 = PySem.Challenge.pw_ta0038_01 := by kernel_rfl!
theorem cV_eq : cV stAt mt R0 = cE := by kernel_rfl!
theorem opn_eq : opening PySem.Challenge.pw_ta0038_01 = opn := by kernel_rfl!
noncomputable def o0_0d0 (P : Params) : List DictEntry := [⟨(PyData.keyHash P (Str.ofString "__name__")), (.str (Str.ofString "__name__") 1), (.str (Str.ofString "builtins") 160)⟩, ⟨(PyData.keyHash P (Str.ofString "__doc__")), (.str (Str.ofString "__doc__") 2), (.builtin "builtins.__doc__:str#opaque")⟩, ⟨(PyData.keyHash P (Str.ofString "__package__")), (.str (Str.ofString "__package__") 3), (.builtin "builtins.__package__:str#opaque")⟩, ⟨(PyData.keyHash P (Str.ofString "__loader__")), (.str (Str.ofString "__loader__") 4), (.builtin "builtins.__loader__:shared#opaque")⟩, ⟨(PyData.keyHash P (Str.ofString "__spec__")), (.str (Str.ofString "__spec__") 5), (.builtin "builtins.__spec__#opaque")⟩, ⟨(PyData.keyHash P (Str.ofString "__build_class__")), (.str (Str.ofString "__build_class__") 6), (.builtin "__build_class__")⟩]
noncomputable def o0_0d1 (P : Params) : List DictEntry := [⟨(PyData.keyHash P (Str.ofString "__import__")), (.str (Str.ofString "__import__") 7), (.builtin "__import__")⟩, ⟨(PyData.keyHash P (Str.ofString "abs")), (.str (Str.ofString "abs") 8), (.builtin "abs")⟩, ⟨(PyData.keyHash P (Str.ofString "all")), (.str (Str.ofString "all") 9), (.builtin "all")⟩, ⟨(PyData.keyHash P (Str.ofString "any")), (.str (Str.ofString "any") 10), (.builtin "any")⟩, ⟨(PyData.keyHash P (Str.ofString "ascii")), (.str (Str.ofString "ascii") 11), (.builtin "ascii")⟩, ⟨(PyData.keyHash P (Str.ofString "bin")), (.str (Str.ofString "bin") 12), (.builtin "bin")⟩]
noncomputable def o0_0d2 (P : Params) : List DictEntry := [⟨(PyData.keyHash P (Str.ofString "breakpoint")), (.str (Str.ofString "breakpoint") 13), (.builtin "breakpoint")⟩, ⟨(PyData.keyHash P (Str.ofString "callable")), (.str (Str.ofString "callable") 14), (.builtin "callable")⟩, ⟨(PyData.keyHash P (Str.ofString "chr")), (.str (Str.ofString "chr") 15), (.builtin "chr")⟩, ⟨(PyData.keyHash P (Str.ofString "compile")), (.str (Str.ofString "compile") 16), (.builtin "compile")⟩, ⟨(PyData.keyHash P (Str.ofString "delattr")), (.str (Str.ofString "delattr") 17), (.builtin "delattr")⟩, ⟨(PyData.keyHash P (Str.ofString "dir")), (.str (Str.ofString "dir") 18), (.builtin "dir")⟩]
noncomputable def o0_0d3 (P : Params) : List DictEntry := [⟨(PyData.keyHash P (Str.ofString "divmod")), (.str (Str.ofString "divmod") 19), (.builtin "divmod")⟩, ⟨(PyData.keyHash P (Str.ofString "eval")), (.str (Str.ofString "eval") 20), (.builtin "eval")⟩, ⟨(PyData.keyHash P (Str.ofString "exec")), (.str (Str.ofString "exec") 21), (.builtin "exec")⟩, ⟨(PyData.keyHash P (Str.ofString "format")), (.str (Str.ofString "format") 22), (.builtin "format")⟩, ⟨(PyData.keyHash P (Str.ofString "getattr")), (.str (Str.ofString "getattr") 23), (.builtin "getattr")⟩, ⟨(PyData.keyHash P (Str.ofString "globals")), (.str (Str.ofString "globals") 24), (.builtin "globals")⟩]
noncomputable def o0_0d4 (P : Params) : List DictEntry := [⟨(PyData.keyHash P (Str.ofString "hasattr")), (.str (Str.ofString "hasattr") 25), (.builtin "hasattr")⟩, ⟨(PyData.keyHash P (Str.ofString "hash")), (.str (Str.ofString "hash") 26), (.builtin "hash")⟩, ⟨(PyData.keyHash P (Str.ofString "hex")), (.str (Str.ofString "hex") 27), (.builtin "hex")⟩, ⟨(PyData.keyHash P (Str.ofString "id")), (.str (Str.ofString "id") 28), (.builtin "id")⟩, ⟨(PyData.keyHash P (Str.ofString "input")), (.str (Str.ofString "input") 29), (.builtin "input")⟩, ⟨(PyData.keyHash P (Str.ofString "isinstance")), (.str (Str.ofString "isinstance") 30), (.builtin "isinstance")⟩]
noncomputable def o0_0d5 (P : Params) : List DictEntry := [⟨(PyData.keyHash P (Str.ofString "issubclass")), (.str (Str.ofString "issubclass") 31), (.builtin "issubclass")⟩, ⟨(PyData.keyHash P (Str.ofString "iter")), (.str (Str.ofString "iter") 32), (.builtin "iter")⟩, ⟨(PyData.keyHash P (Str.ofString "aiter")), (.str (Str.ofString "aiter") 33), (.builtin "aiter")⟩, ⟨(PyData.keyHash P (Str.ofString "len")), (.str (Str.ofString "len") 34), (.builtin "len")⟩, ⟨(PyData.keyHash P (Str.ofString "locals")), (.str (Str.ofString "locals") 35), (.builtin "locals")⟩, ⟨(PyData.keyHash P (Str.ofString "max")), (.str (Str.ofString "max") 36), (.builtin "max")⟩]
noncomputable def o0_0d6 (P : Params) : List DictEntry := [⟨(PyData.keyHash P (Str.ofString "min")), (.str (Str.ofString "min") 37), (.builtin "min")⟩, ⟨(PyData.keyHash P (Str.ofString "next")), (.str (Str.ofString "next") 38), (.builtin "next")⟩, ⟨(PyData.keyHash P (Str.ofString "anext")), (.str (Str.ofString "anext") 39), (.builtin "anext")⟩, ⟨(PyData.keyHash P (Str.ofString "oct")), (.str (Str.ofString "oct") 40), (.builtin "oct")⟩, ⟨(PyData.keyHash P (Str.ofString "ord")), (.str (Str.ofString "ord") 41), (.builtin "ord")⟩, ⟨(PyData.keyHash P (Str.ofString "pow")), (.str (Str.ofString "pow") 42), (.builtin "pow")⟩]
noncomputable def o0_0d7 (P : Params) : List DictEntry := [⟨(PyData.keyHash P (Str.ofString "print")), (.str (Str.ofString "print") 43), (.builtin "print")⟩, ⟨(PyData.keyHash P (Str.ofString "repr")), (.str (Str.ofString "repr") 44), (.builtin "repr")⟩, ⟨(PyData.keyHash P (Str.ofString "round")), (.str (Str.ofString "round") 45), (.builtin "round")⟩, ⟨(PyData.keyHash P (Str.ofString "setattr")), (.str (Str.ofString "setattr") 46), (.builtin "setattr")⟩, ⟨(PyData.keyHash P (Str.ofString "sorted")), (.str (Str.ofString "sorted") 47), (.builtin "sorted")⟩, ⟨(PyData.keyHash P (Str.ofString "sum")), (.str (Str.ofString "sum") 48), (.builtin "sum")⟩]
noncomputable def o0_0d8 (P : Params) : List DictEntry := [⟨(PyData.keyHash P (Str.ofString "vars")), (.str (Str.ofString "vars") 49), (.builtin "vars")⟩, ⟨(PyData.keyHash P (Str.ofString "None")), (.str (Str.ofString "None") 50), .none⟩, ⟨(PyData.keyHash P (Str.ofString "Ellipsis")), (.str (Str.ofString "Ellipsis") 51), .ellipsis⟩, ⟨(PyData.keyHash P (Str.ofString "NotImplemented")), (.str (Str.ofString "NotImplemented") 52), .notImplemented⟩, ⟨(PyData.keyHash P (Str.ofString "False")), (.str (Str.ofString "False") 53), (.bool false)⟩, ⟨(PyData.keyHash P (Str.ofString "True")), (.str (Str.ofString "True") 54), (.bool true)⟩]
noncomputable def o0_0d9 (P : Params) : List DictEntry := [⟨(PyData.keyHash P (Str.ofString "bool")), (.str (Str.ofString "bool") 55), (.type "bool")⟩, ⟨(PyData.keyHash P (Str.ofString "memoryview")), (.str (Str.ofString "memoryview") 56), (.type "memoryview")⟩, ⟨(PyData.keyHash P (Str.ofString "bytearray")), (.str (Str.ofString "bytearray") 57), (.type "bytearray")⟩, ⟨(PyData.keyHash P (Str.ofString "bytes")), (.str (Str.ofString "bytes") 58), (.type "bytes")⟩, ⟨(PyData.keyHash P (Str.ofString "classmethod")), (.str (Str.ofString "classmethod") 59), (.type "classmethod")⟩, ⟨(PyData.keyHash P (Str.ofString "complex")), (.str (Str.ofString "complex") 60), (.type "complex")⟩]
noncomputable def o0_0d10 (P : Params) : List DictEntry := [⟨(PyData.keyHash P (Str.ofString "dict")), (.str (Str.ofString "dict") 61), (.type "dict")⟩, ⟨(PyData.keyHash P (Str.ofString "enumerate")), (.str (Str.ofString "enumerate") 62), (.type "enumerate")⟩, ⟨(PyData.keyHash P (Str.ofString "filter")), (.str (Str.ofString "filter") 63), (.type "filter")⟩, ⟨(PyData.keyHash P (Str.ofString "float")), (.str (Str.ofString "float") 64), (.type "float")⟩, ⟨(PyData.keyHash P (Str.ofString "frozenset")), (.str (Str.ofString "frozenset") 65), (.type "frozenset")⟩, ⟨(PyData.keyHash P (Str.ofString "property")), (.str (Str.ofString "property") 66), (.type "property")⟩]
noncomputable def o0_0d11 (P : Params) : List DictEntry := [⟨(PyData.keyHash P (Str.ofString "int")), (.str (Str.ofString "int") 67), (.type "int")⟩, ⟨(PyData.keyHash P (Str.ofString "list")), (.str (Str.ofString "list") 68), (.type "list")⟩, ⟨(PyData.keyHash P (Str.ofString "map")), (.str (Str.ofString "map") 69), (.type "map")⟩, ⟨(PyData.keyHash P (Str.ofString "object")), (.str (Str.ofString "object") 70), (.type "object")⟩, ⟨(PyData.keyHash P (Str.ofString "range")), (.str (Str.ofString "range") 71), (.type "range")⟩, ⟨(PyData.keyHash P (Str.ofString "reversed")), (.str (Str.ofString "reversed") 72), (.type "reversed")⟩]
noncomputable def o0_0d12 (P : Params) : List DictEntry := [⟨(PyData.keyHash P (Str.ofString "set")), (.str (Str.ofString "set") 73), (.type "set")⟩, ⟨(PyData.keyHash P (Str.ofString "slice")), (.str (Str.ofString "slice") 74), (.type "slice")⟩, ⟨(PyData.keyHash P (Str.ofString "staticmethod")), (.str (Str.ofString "staticmethod") 75), (.type "staticmethod")⟩, ⟨(PyData.keyHash P (Str.ofString "str")), (.str (Str.ofString "str") 76), (.type "str")⟩, ⟨(PyData.keyHash P (Str.ofString "super")), (.str (Str.ofString "super") 77), (.type "super")⟩, ⟨(PyData.keyHash P (Str.ofString "tuple")), (.str (Str.ofString "tuple") 78), (.type "tuple")⟩]
noncomputable def o0_0d13 (P : Params) : List DictEntry := [⟨(PyData.keyHash P (Str.ofString "type")), (.str (Str.ofString "type") 79), (.type "type")⟩, ⟨(PyData.keyHash P (Str.ofString "zip")), (.str (Str.ofString "zip") 80), (.type "zip")⟩, ⟨(PyData.keyHash P (Str.ofString "__debug__")), (.str (Str.ofString "__debug__") 81), (.bool true)⟩, ⟨(PyData.keyHash P (Str.ofString "BaseException")), (.str (Str.ofString "BaseException") 82), (.type "BaseException")⟩, ⟨(PyData.keyHash P (Str.ofString "BaseExceptionGroup")), (.str (Str.ofString "BaseExceptionGroup") 83), (.type "BaseExceptionGroup")⟩, ⟨(PyData.keyHash P (Str.ofString "Exception")), (.str (Str.ofString "Exception") 84), (.type "Exception")⟩]
noncomputable def o0_0d14 (P : Params) : List DictEntry := [⟨(PyData.keyHash P (Str.ofString "GeneratorExit")), (.str (Str.ofString "GeneratorExit") 85), (.type "GeneratorExit")⟩, ⟨(PyData.keyHash P (Str.ofString "KeyboardInterrupt")), (.str (Str.ofString "KeyboardInterrupt") 86), (.type "KeyboardInterrupt")⟩, ⟨(PyData.keyHash P (Str.ofString "SystemExit")), (.str (Str.ofString "SystemExit") 87), (.type "SystemExit")⟩, ⟨(PyData.keyHash P (Str.ofString "ArithmeticError")), (.str (Str.ofString "ArithmeticError") 88), (.type "ArithmeticError")⟩, ⟨(PyData.keyHash P (Str.ofString "AssertionError")), (.str (Str.ofString "AssertionError") 89), (.type "AssertionError")⟩, ⟨(PyData.keyHash P (Str.ofString "AttributeError")), (.str (Str.ofString "AttributeError") 90), (.type "AttributeError")⟩]
noncomputable def o0_0d15 (P : Params) : List DictEntry := [⟨(PyData.keyHash P (Str.ofString "BufferError")), (.str (Str.ofString "BufferError") 91), (.type "BufferError")⟩, ⟨(PyData.keyHash P (Str.ofString "EOFError")), (.str (Str.ofString "EOFError") 92), (.type "EOFError")⟩, ⟨(PyData.keyHash P (Str.ofString "ImportError")), (.str (Str.ofString "ImportError") 93), (.type "ImportError")⟩, ⟨(PyData.keyHash P (Str.ofString "LookupError")), (.str (Str.ofString "LookupError") 94), (.type "LookupError")⟩, ⟨(PyData.keyHash P (Str.ofString "MemoryError")), (.str (Str.ofString "MemoryError") 95), (.type "MemoryError")⟩, ⟨(PyData.keyHash P (Str.ofString "NameError")), (.str (Str.ofString "NameError") 96), (.type "NameError")⟩]
noncomputable def o0_0d16 (P : Params) : List DictEntry := [⟨(PyData.keyHash P (Str.ofString "OSError")), (.str (Str.ofString "OSError") 97), (.type "OSError")⟩, ⟨(PyData.keyHash P (Str.ofString "ReferenceError")), (.str (Str.ofString "ReferenceError") 98), (.type "ReferenceError")⟩, ⟨(PyData.keyHash P (Str.ofString "RuntimeError")), (.str (Str.ofString "RuntimeError") 99), (.type "RuntimeError")⟩, ⟨(PyData.keyHash P (Str.ofString "StopAsyncIteration")), (.str (Str.ofString "StopAsyncIteration") 100), (.type "StopAsyncIteration")⟩, ⟨(PyData.keyHash P (Str.ofString "StopIteration")), (.str (Str.ofString "StopIteration") 101), (.type "StopIteration")⟩, ⟨(PyData.keyHash P (Str.ofString "SyntaxError")), (.str (Str.ofString "SyntaxError") 102), (.type "SyntaxError")⟩]
noncomputable def o0_0d17 (P : Params) : List DictEntry := [⟨(PyData.keyHash P (Str.ofString "SystemError")), (.str (Str.ofString "SystemError") 103), (.type "SystemError")⟩, ⟨(PyData.keyHash P (Str.ofString "TypeError")), (.str (Str.ofString "TypeError") 104), (.type "TypeError")⟩, ⟨(PyData.keyHash P (Str.ofString "ValueError")), (.str (Str.ofString "ValueError") 105), (.type "ValueError")⟩, ⟨(PyData.keyHash P (Str.ofString "Warning")), (.str (Str.ofString "Warning") 106), (.type "Warning")⟩, ⟨(PyData.keyHash P (Str.ofString "FloatingPointError")), (.str (Str.ofString "FloatingPointError") 107), (.type "FloatingPointError")⟩, ⟨(PyData.keyHash P (Str.ofString "OverflowError")), (.str (Str.ofString "OverflowError") 108), (.type "OverflowError")⟩]
noncomputable def o0_0d18 (P : Params) : List DictEntry := [⟨(PyData.keyHash P (Str.ofString "ZeroDivisionError")), (.str (Str.ofString "ZeroDivisionError") 109), (.type "ZeroDivisionError")⟩, ⟨(PyData.keyHash P (Str.ofString "BytesWarning")), (.str (Str.ofString "BytesWarning") 110), (.type "BytesWarning")⟩, ⟨(PyData.keyHash P (Str.ofString "DeprecationWarning")), (.str (Str.ofString "DeprecationWarning") 111), (.type "DeprecationWarning")⟩, ⟨(PyData.keyHash P (Str.ofString "EncodingWarning")), (.str (Str.ofString "EncodingWarning") 112), (.type "EncodingWarning")⟩, ⟨(PyData.keyHash P (Str.ofString "FutureWarning")), (.str (Str.ofString "FutureWarning") 113), (.type "FutureWarning")⟩, ⟨(PyData.keyHash P (Str.ofString "ImportWarning")), (.str (Str.ofString "ImportWarning") 114), (.type "ImportWarning")⟩]
noncomputable def o0_0d19 (P : Params) : List DictEntry := [⟨(PyData.keyHash P (Str.ofString "PendingDeprecationWarning")), (.str (Str.ofString "PendingDeprecationWarning") 115), (.type "PendingDeprecationWarning")⟩, ⟨(PyData.keyHash P (Str.ofString "ResourceWarning")), (.str (Str.ofString "ResourceWarning") 116), (.type "ResourceWarning")⟩, ⟨(PyData.keyHash P (Str.ofString "RuntimeWarning")), (.str (Str.ofString "RuntimeWarning") 117), (.type "RuntimeWarning")⟩, ⟨(PyData.keyHash P (Str.ofString "SyntaxWarning")), (.str (Str.ofString "SyntaxWarning") 118), (.type "SyntaxWarning")⟩, ⟨(PyData.keyHash P (Str.ofString "UnicodeWarning")), (.str (Str.ofString "UnicodeWarning") 119), (.type "UnicodeWarning")⟩, ⟨(PyData.keyHash P (Str.ofString "UserWarning")), (.str (Str.ofString "UserWarning") 120), (.type "UserWarning")⟩]
noncomputable def o0_0d20 (P : Params) : List DictEntry := [⟨(PyData.keyHash P (Str.ofString "BlockingIOError")), (.str (Str.ofString "BlockingIOError") 121), (.type "BlockingIOError")⟩, ⟨(PyData.keyHash P (Str.ofString "ChildProcessError")), (.str (Str.ofString "ChildProcessError") 122), (.type "ChildProcessError")⟩, ⟨(PyData.keyHash P (Str.ofString "ConnectionError")), (.str (Str.ofString "ConnectionError") 123), (.type "ConnectionError")⟩, ⟨(PyData.keyHash P (Str.ofString "FileExistsError")), (.str (Str.ofString "FileExistsError") 124), (.type "FileExistsError")⟩, ⟨(PyData.keyHash P (Str.ofString "FileNotFoundError")), (.str (Str.ofString "FileNotFoundError") 125), (.type "FileNotFoundError")⟩, ⟨(PyData.keyHash P (Str.ofString "InterruptedError")), (.str (Str.ofString "InterruptedError") 126), (.type "InterruptedError")⟩]
noncomputable def o0_0d21 (P : Params) : List DictEntry := [⟨(PyData.keyHash P (Str.ofString "IsADirectoryError")), (.str (Str.ofString "IsADirectoryError") 127), (.type "IsADirectoryError")⟩, ⟨(PyData.keyHash P (Str.ofString "NotADirectoryError")), (.str (Str.ofString "NotADirectoryError") 128), (.type "NotADirectoryError")⟩, ⟨(PyData.keyHash P (Str.ofString "PermissionError")), (.str (Str.ofString "PermissionError") 129), (.type "PermissionError")⟩, ⟨(PyData.keyHash P (Str.ofString "ProcessLookupError")), (.str (Str.ofString "ProcessLookupError") 130), (.type "ProcessLookupError")⟩, ⟨(PyData.keyHash P (Str.ofString "TimeoutError")), (.str (Str.ofString "TimeoutError") 131), (.type "TimeoutError")⟩, ⟨(PyData.keyHash P (Str.ofString "IndentationError")), (.str (Str.ofString "IndentationError") 132), (.type "IndentationError")⟩]
noncomputable def o0_0d22 (P : Params) : List DictEntry := [⟨(PyData.keyHash P (Str.ofString "_IncompleteInputError")), (.str (Str.ofString "_IncompleteInputError") 133), (.type "_IncompleteInputError")⟩, ⟨(PyData.keyHash P (Str.ofString "IndexError")), (.str (Str.ofString "IndexError") 134), (.type "IndexError")⟩, ⟨(PyData.keyHash P (Str.ofString "KeyError")), (.str (Str.ofString "KeyError") 135), (.type "KeyError")⟩, ⟨(PyData.keyHash P (Str.ofString "ModuleNotFoundError")), (.str (Str.ofString "ModuleNotFoundError") 136), (.type "ModuleNotFoundError")⟩, ⟨(PyData.keyHash P (Str.ofString "NotImplementedError")), (.str (Str.ofString "NotImplementedError") 137), (.type "NotImplementedError")⟩, ⟨(PyData.keyHash P (Str.ofString "PythonFinalizationError")), (.str (Str.ofString "PythonFinalizationError") 138), (.type "PythonFinalizationError")⟩]
noncomputable def o0_0d23 (P : Params) : List DictEntry := [⟨(PyData.keyHash P (Str.ofString "RecursionError")), (.str (Str.ofString "RecursionError") 139), (.type "RecursionError")⟩, ⟨(PyData.keyHash P (Str.ofString "UnboundLocalError")), (.str (Str.ofString "UnboundLocalError") 140), (.type "UnboundLocalError")⟩, ⟨(PyData.keyHash P (Str.ofString "UnicodeError")), (.str (Str.ofString "UnicodeError") 141), (.type "UnicodeError")⟩, ⟨(PyData.keyHash P (Str.ofString "BrokenPipeError")), (.str (Str.ofString "BrokenPipeError") 142), (.type "BrokenPipeError")⟩, ⟨(PyData.keyHash P (Str.ofString "ConnectionAbortedError")), (.str (Str.ofString "ConnectionAbortedError") 143), (.type "ConnectionAbortedError")⟩, ⟨(PyData.keyHash P (Str.ofString "ConnectionRefusedError")), (.str (Str.ofString "ConnectionRefusedError") 144), (.type "ConnectionRefusedError")⟩]
noncomputable def o0_0d24 (P : Params) : List DictEntry := [⟨(PyData.keyHash P (Str.ofString "ConnectionResetError")), (.str (Str.ofString "ConnectionResetError") 145), (.type "ConnectionResetError")⟩, ⟨(PyData.keyHash P (Str.ofString "TabError")), (.str (Str.ofString "TabError") 146), (.type "TabError")⟩, ⟨(PyData.keyHash P (Str.ofString "UnicodeDecodeError")), (.str (Str.ofString "UnicodeDecodeError") 147), (.type "UnicodeDecodeError")⟩, ⟨(PyData.keyHash P (Str.ofString "UnicodeEncodeError")), (.str (Str.ofString "UnicodeEncodeError") 148), (.type "UnicodeEncodeError")⟩, ⟨(PyData.keyHash P (Str.ofString "UnicodeTranslateError")), (.str (Str.ofString "UnicodeTranslateError") 149), (.type "UnicodeTranslateError")⟩, ⟨(PyData.keyHash P (Str.ofString "ExceptionGroup")), (.str (Str.ofString "ExceptionGroup") 150), (.type "ExceptionGroup")⟩]
noncomputable def o0_0d25 (P : Params) : List DictEntry := [⟨(PyData.keyHash P (Str.ofString "EnvironmentError")), (.str (Str.ofString "EnvironmentError") 151), (.type "OSError")⟩, ⟨(PyData.keyHash P (Str.ofString "IOError")), (.str (Str.ofString "IOError") 152), (.type "OSError")⟩, ⟨(PyData.keyHash P (Str.ofString "open")), (.str (Str.ofString "open") 153), (.builtin "open")⟩, ⟨(PyData.keyHash P (Str.ofString "quit")), (.str (Str.ofString "quit") 154), (.builtin "builtins.quit#opaque")⟩, ⟨(PyData.keyHash P (Str.ofString "exit")), (.str (Str.ofString "exit") 155), (.builtin "builtins.exit#opaque")⟩, ⟨(PyData.keyHash P (Str.ofString "copyright")), (.str (Str.ofString "copyright") 156), (.builtin "builtins.copyright#opaque")⟩]
noncomputable def o0_0d26 (P : Params) : List DictEntry := [⟨(PyData.keyHash P (Str.ofString "credits")), (.str (Str.ofString "credits") 157), (.builtin "builtins.credits#opaque")⟩, ⟨(PyData.keyHash P (Str.ofString "license")), (.str (Str.ofString "license") 158), (.builtin "builtins.license#opaque")⟩, ⟨(PyData.keyHash P (Str.ofString "help")), (.str (Str.ofString "help") 159), (.builtin "builtins.help#opaque")⟩]
noncomputable def o0_0 (P : Params) : Obj := ⟨(.type "dict"), none, (.dict (o0_0d0 P ++ (o0_0d1 P ++ (o0_0d2 P ++ (o0_0d3 P ++ (o0_0d4 P ++ (o0_0d5 P ++ (o0_0d6 P ++ (o0_0d7 P ++ (o0_0d8 P ++ (o0_0d9 P ++ (o0_0d10 P ++ (o0_0d11 P ++ (o0_0d12 P ++ (o0_0d13 P ++ (o0_0d14 P ++ (o0_0d15 P ++ (o0_0d16 P ++ (o0_0d17 P ++ (o0_0d18 P ++ (o0_0d19 P ++ (o0_0d20 P ++ (o0_0d21 P ++ (o0_0d22 P ++ (o0_0d23 P ++ (o0_0d24 P ++ (o0_0d25 P ++ (o0_0d26 P))))))))))))))))))))))))))).toArray 159), [].toArray⟩
noncomputable def o1_0 (P : Params) : Obj := ⟨(.type "dict"), none, (.dict [⟨(PyData.keyHash P (Str.ofString "builtins")), (.str (Str.ofString "builtins") 162), (.ref 4)⟩, ⟨(PyData.keyHash P (Str.ofString "__main__")), (.str (Str.ofString "__main__") 163), (.ref 5)⟩, ⟨(PyData.keyHash P (Str.ofString "_sre")), (.str (Str.ofString "_sre") 244), (.ref 12)⟩].toArray 3), [].toArray⟩
noncomputable def o2_0 (P : Params) : Obj := ⟨.none, none, (.dict [⟨(PyData.keyHash P (Str.ofString "\x69mport.loaded._sre")), (.str (Str.ofString "\x69mport.loaded._sre") 183), (.bool true)⟩, ⟨(PyData.keyHash P (Str.ofString "class._frozen_importlib.BuiltinImporter")), (.str (Str.ofString "class._frozen_importlib.BuiltinImporter") 185), (.ref 14)⟩, ⟨(PyData.keyHash P (Str.ofString "watched.\x69mport")), (.str (Str.ofString "watched.\x69mport") 206), (.ref 18)⟩, ⟨(PyData.keyHash P (Str.ofString "class._frozen_importlib.ModuleSpec")), (.str (Str.ofString "class._frozen_importlib.ModuleSpec") 216), (.ref 22)⟩, ⟨(PyData.keyHash P (Str.ofString "sys.modules.booked-epoch")), (.str (Str.ofString "sys.modules.booked-epoch") 245), (.int 3 0)⟩, ⟨(PyData.keyHash P (Str.ofString "\x69mport.later-laid._sre")), (.str (Str.ofString "\x69mport.later-laid._sre") 270), (.bool true)⟩, ⟨(PyData.keyHash P (Str.ofString "watched.library")), (.str (Str.ofString "watched.library") 272), (.ref 27)⟩, ⟨(PyData.keyHash P (Str.ofString "watched.library-objects")), (.str (Str.ofString "watched.library-objects") 0), (.str (Str.ofString "\x0c") 0)⟩, ⟨(PyData.keyHash P (Str.ofString "watched.library-deep._sre")), (.str (Str.ofString "watched.library-deep._sre") 273), (.str (Str.ofString "\x04\x00\x00\x0b\x04\x00\x00\x0b\x04\x00\x00\x03\x04\x00\x00\x0b\x08\x04dict\x02") 0)⟩].toArray 9), [].toArray⟩
noncomputable def o3_0 (P : Params) : Obj := ⟨(.type "dict"), none, (.dict [⟨(PyData.keyHash P (Str.ofString "__name__")), (.str (Str.ofString "__name__") 165), (.str (Str.ofString "__main__") 164)⟩, ⟨(PyData.keyHash P (Str.ofString "__doc__")), (.str (Str.ofString "__doc__") 166), .none⟩, ⟨(PyData.keyHash P (Str.ofString "__package__")), (.str (Str.ofString "__package__") 167), .none⟩, ⟨(PyData.keyHash P (Str.ofString "__loader__")), (.str (Str.ofString "__loader__") 168), (.builtin "__main__.__loader__#opaque")⟩, ⟨(PyData.keyHash P (Str.ofString "__spec__")), (.str (Str.ofString "__spec__") 169), .none⟩, ⟨(PyData.keyHash P (Str.ofString "__annotations__")), (.str (Str.ofString "__annotations__") 170), (.ref 6)⟩, ⟨(PyData.keyHash P (Str.ofString "__builtins__")), (.str (Str.ofString "__builtins__") 171), (.ref 4)⟩, ⟨(PyData.keyHash P (Str.ofString "__file__")), (.str (Str.ofString "__file__") 173), (.str (Str.ofString "/claim/cut.py") 172)⟩, ⟨(PyData.keyHash P (Str.ofString "__cached__")), (.str (Str.ofString "__cached__") 174), .none⟩, ⟨(PyData.keyHash P (Str.ofString "_sre")), (.str (Str.ofString "_sre") 275), (.ref 12)⟩].toArray 10), [].toArray⟩
noncomputable def o4_0 (P : Params) : Obj := ⟨(.type "module"), (some 0), .plain, [].toArray⟩
noncomputable def o5_0 (P : Params) : Obj := ⟨(.type "module"), (some 3), .plain, [].toArray⟩
noncomputable def o6_0 (P : Params) : Obj := ⟨(.type "dict"), none, (.dict [].toArray 0), [].toArray⟩
noncomputable def o7_0 (P : Params) : Obj := ⟨(.type "tuple"), none, (.seq [].toArray 0), [].toArray⟩
noncomputable def o8_0 (P : Params) : Obj := ⟨.none, none, (.fields [].toArray), [].toArray⟩
noncomputable def o9_0 (P : Params) : Obj := ⟨(.type "code"), none, (.fields [(.str (Str.ofString "<module>") 176), (.str (Str.ofString "<module>") 177), (.str (Str.ofString "/claim/cut.py") 178), (.int 1 0), (.int 0 0), (.int 0 0), (.int 0 0), (.int 0 0), (.ref 7), (.bool false), (.int 175 0), (.ref 8), .none, .none, .none, .none, (.int 179 0), (.int 1 0), (.str (Str.ofString "/claim/cut.py") 180)].toArray), [].toArray⟩
noncomputable def o10_0 (P : Params) : Obj := ⟨(.type "frame"), none, .plain, [(some (.ref 9)), (some (.ref 3)), (some (.ref 3)), none, (some (.str (Str.ofString "__main__") 164)), none, (some (.ref 0))].toArray⟩
noncomputable def o11_0d0 (P : Params) : List DictEntry := [⟨(PyData.keyHash P (Str.ofString "__name__")), (.str (Str.ofString "__name__") 247), (.str (Str.ofString "_sre") 246)⟩, ⟨(PyData.keyHash P (Str.ofString "__doc__")), (.str (Str.ofString "__doc__") 248), .none⟩, ⟨(PyData.keyHash P (Str.ofString "__package__")), (.str (Str.ofString "__package__") 250), (.str (Str.ofString "") 249)⟩, ⟨(PyData.keyHash P (Str.ofString "__loader__")), (.str (Str.ofString "__loader__") 251), (.builtin "off-the-table:_sre.__loader__:shared#opaque")⟩, ⟨(PyData.keyHash P (Str.ofString "__spec__")), (.str (Str.ofString "__spec__") 252), (.builtin "off-the-table:_sre.__spec__:shared#opaque")⟩, ⟨(PyData.keyHash P (Str.ofString "compile")), (.str (Str.ofString "compile") 253), (.builtin "_sre.compile")⟩]
noncomputable def o11_0d1 (P : Params) : List DictEntry := [⟨(PyData.keyHash P (Str.ofString "template")), (.str (Str.ofString "template") 254), (.builtin "off-the-table:_sre.template:shared#opaque")⟩, ⟨(PyData.keyHash P (Str.ofString "getcodesize")), (.str (Str.ofString "getcodesize") 255), (.builtin "off-the-table:_sre.getcodesize:shared#opaque")⟩, ⟨(PyData.keyHash P (Str.ofString "ascii_iscased")), (.str (Str.ofString "ascii_iscased") 256), (.builtin "off-the-table:_sre.ascii_iscased:shared#opaque")⟩, ⟨(PyData.keyHash P (Str.ofString "unicode_iscased")), (.str (Str.ofString "unicode_iscased") 257), (.builtin "off-the-table:_sre.unicode_iscased:shared#opaque")⟩, ⟨(PyData.keyHash P (Str.ofString "ascii_tolower")), (.str (Str.ofString "ascii_tolower") 258), (.builtin "off-the-table:_sre.ascii_tolower:shared#opaque")⟩, ⟨(PyData.keyHash P (Str.ofString "unicode_tolower")), (.str (Str.ofString "unicode_tolower") 259), (.builtin "off-the-table:_sre.unicode_tolower:shared#opaque")⟩]
noncomputable def o11_0d2 (P : Params) : List DictEntry := [⟨(PyData.keyHash P (Str.ofString "MAGIC")), (.str (Str.ofString "MAGIC") 261), (.int 20230612 260)⟩, ⟨(PyData.keyHash P (Str.ofString "CODESIZE")), (.str (Str.ofString "CODESIZE") 263), (.int 4 262)⟩, ⟨(PyData.keyHash P (Str.ofString "MAXREPEAT")), (.str (Str.ofString "MAXREPEAT") 265), (.int 4294967295 264)⟩, ⟨(PyData.keyHash P (Str.ofString "MAXGROUPS")), (.str (Str.ofString "MAXGROUPS") 267), (.int 1073741823 266)⟩, ⟨(PyData.keyHash P (Str.ofString "copyright")), (.str (Str.ofString "copyright") 269), (.str (Str.ofString " SRE 2.2.2 Copyright (c) 1997-2002 by Secret Labs AB ") 268)⟩]
noncomputable def o11_0 (P : Params) : Obj := ⟨(.type "dict"), none, (.dict (o11_0d0 P ++ (o11_0d1 P ++ (o11_0d2 P))).toArray 17), [].toArray⟩
noncomputable def o12_0 (P : Params) : Obj := ⟨(.type "module"), (some 11), .plain, [].toArray⟩
noncomputable def o13_0d0 (P : Params) : List DictEntry := [⟨(PyData.keyHash P (Str.ofString "__module__")), (.str (Str.ofString "__module__") 189), (.str (Str.ofString "_frozen_importlib") 186)⟩, ⟨(PyData.keyHash P (Str.ofString "__firstlineno__")), (.str (Str.ofString "__firstlineno__") 190), (.int 971 187)⟩, ⟨(PyData.keyHash P (Str.ofString "__doc__")), (.str (Str.ofString "__doc__") 191), (.builtin "_frozen_importlib.BuiltinImporter.__doc__:str#opaque")⟩, ⟨(PyData.keyHash P (Str.ofString "_ORIGIN")), (.str (Str.ofString "_ORIGIN") 192), (.str (Str.ofString "built-in") 188)⟩, ⟨(PyData.keyHash P (Str.ofString "find_spec")), (.str (Str.ofString "find_spec") 193), (.builtin "_frozen_importlib.BuiltinImporter.find_spec#opaque")⟩, ⟨(PyData.keyHash P (Str.ofString "create_module")), (.str (Str.ofString "create_module") 194), (.builtin "_frozen_importlib.BuiltinImporter.create_module#opaque")⟩]
noncomputable def o13_0d1 (P : Params) : List DictEntry := [⟨(PyData.keyHash P (Str.ofString "exec_module")), (.str (Str.ofString "exec_module") 195), (.builtin "_frozen_importlib.BuiltinImporter.exec_module#opaque")⟩, ⟨(PyData.keyHash P (Str.ofString "get_code")), (.str (Str.ofString "get_code") 196), (.builtin "_frozen_importlib.BuiltinImporter.get_code#opaque")⟩, ⟨(PyData.keyHash P (Str.ofString "get_source")), (.str (Str.ofString "get_source") 197), (.builtin "_frozen_importlib.BuiltinImporter.get_source#opaque")⟩, ⟨(PyData.keyHash P (Str.ofString "is_package")), (.str (Str.ofString "is_package") 198), (.builtin "_frozen_importlib.BuiltinImporter.is_package#opaque")⟩, ⟨(PyData.keyHash P (Str.ofString "load_module")), (.str (Str.ofString "load_module") 199), (.builtin "_frozen_importlib.BuiltinImporter.load_module#opaque")⟩, ⟨(PyData.keyHash P (Str.ofString "__static_attributes__")), (.str (Str.ofString "__static_attributes__") 200), (.ref 15)⟩]
noncomputable def o13_0d2 (P : Params) : List DictEntry := [⟨(PyData.keyHash P (Str.ofString "__dict__")), (.str (Str.ofString "__dict__") 202), (.ref 16)⟩, ⟨(PyData.keyHash P (Str.ofString "__weakref__")), (.str (Str.ofString "__weakref__") 204), (.ref 17)⟩]
noncomputable def o13_0 (P : Params) : Obj := ⟨(.type "dict"), none, (.dict (o13_0d0 P ++ (o13_0d1 P ++ (o13_0d2 P))).toArray 14), [].toArray⟩
noncomputable def o14_0 (P : Params) : Obj := ⟨(.type "type"), none, (.cls { name := (Str.ofString "BuiltinImporter"), bases := [(.type "object")], mro := [(.ref 14), (.type "object")], ns := 13, qualname := (Str.ofString "BuiltinImporter"), hasDict := true, slotNames := [], subclasses := [], abstract := false, collection := none, hasDel := false }), [].toArray⟩
noncomputable def o15_0 (P : Params) : Obj := ⟨(.type "tuple"), none, (.seq [].toArray 0), [].toArray⟩
noncomputable def o16_0 (P : Params) : Obj := ⟨(.type "getset_descriptor"), none, (.fields [(.str (Str.ofString "__dict__") 201), (.ref 14), (.builtin "function.__dict__"), (.builtin "function.__dict__#set")].toArray), [].toArray⟩
noncomputable def o17_0 (P : Params) : Obj := ⟨(.type "getset_descriptor"), none, (.fields [(.str (Str.ofString "__weakref__") 203), (.ref 14), (.builtin "ExceptionGroup.__weakref__"), .none].toArray), [].toArray⟩
noncomputable def o18_0 (P : Params) : Obj := ⟨.none, none, (.seq [(.int 13 0), (.str (Str.ofString "\x06½\n__module__\x06º\x11_frozen_importlib\x06¾\x0f__firstlineno__\x04»\x00ϋ\x06¿\x07__doc__\t4_frozen_importlib.BuiltinImporter.__doc__:str#opaque\x06À\x07_ORIGIN\x06¼\x08built-in\x06Á\tfind_spec\t2_frozen_importlib.BuiltinImporter.find_spec#opaque\x06Â\x0dcreate_module\t6_frozen_importlib.BuiltinImporter.create_module#opaque\x06Ã\x0bexec_module\t4_frozen_importlib.BuiltinImporter.exec_module#opaque\x06Ä\x08get_code\t1_frozen_importlib.BuiltinImporter.get_code#opaque\x06Å\nget_source\t3_frozen_importlib.BuiltinImporter.get_source#opaque\x06Æ\nis_package\t3_frozen_importlib.BuiltinImporter.is_package#opaque\x06Ç\x0bload_module\t4_frozen_importlib.BuiltinImporter.load_module#opaque\x06È\x15__static_attributes__\x04\x00\x00\x0f\x06Ê\x08__dict__\x04\x00\x00\x10\x06Ì\x0b__weakref__\x04\x00\x00\x11") 0), (.bool true), (.bool true), (.str (Str.ofString "") 205), (.int 21 0), (.str (Str.ofString "\x06ã\n__module__\x06Ù\x11_frozen_importlib\x06ä\x0f__firstlineno__\x04Ú\x00Ȳ\x06å\x07__doc__\t/_frozen_importlib.ModuleSpec.__doc__:str#opaque\x06æ\x08__init__\t,_frozen_importlib.ModuleSpec.__init__#opaque\x06ç\x08__repr__\t,_frozen_importlib.ModuleSpec.__repr__#opaque\x06è\x06__eq__\t*_frozen_importlib.ModuleSpec.__eq__#opaque\x06é\x06cached\t*_frozen_importlib.ModuleSpec.cached#opaque\x06ê\x06parent\t*_frozen_importlib.ModuleSpec.parent#opaque\x06ë\x0chas_location\t0_frozen_importlib.ModuleSpec.has_location#opaque\x06ì\x15__static_attributes__\x04\x00\x00\x17\x06î\x08__dict__\x04\x00\x00\x18\x06ð\x0b__weakref__\x04\x00\x00\x19\x06ñ\x08__hash__\x00") 0), (.bool true), (.bool true), (.str (Str.ofString "") 242)].toArray 1), [].toArray⟩
noncomputable def o19_0 (P : Params) : Obj := ⟨(.type "list"), none, (.seq [].toArray 0), [].toArray⟩
noncomputable def o20_0 (P : Params) : Obj := ⟨(.type "dict"), none, (.dict [⟨(PyData.keyHash P (Str.ofString "name")), (.str (Str.ofString "name") 208), (.str (Str.ofString "_sre") 207)⟩, ⟨(PyData.keyHash P (Str.ofString "loader")), (.str (Str.ofString "loader") 209), (.ref 14)⟩, ⟨(PyData.keyHash P (Str.ofString "origin")), (.str (Str.ofString "origin") 210), (.str (Str.ofString "built-in") 184)⟩, ⟨(PyData.keyHash P (Str.ofString "loader_state")), (.str (Str.ofString "loader_state") 211), .none⟩, ⟨(PyData.keyHash P (Str.ofString "submodule_search_locations")), (.str (Str.ofString "submodule_search_locations") 212), .none⟩, ⟨(PyData.keyHash P (Str.ofString "_uninitialized_submodules")), (.str (Str.ofString "_uninitialized_submodules") 213), (.ref 19)⟩, ⟨(PyData.keyHash P (Str.ofString "_set_fileattr")), (.str (Str.ofString "_set_fileattr") 214), (.bool false)⟩, ⟨(PyData.keyHash P (Str.ofString "_cached")), (.str (Str.ofString "_cached") 215), .none⟩, ⟨(PyData.keyHash P (Str.ofString "_initializing")), (.str (Str.ofString "_initializing") 243), (.bool false)⟩].toArray 9), [].toArray⟩
noncomputable def o21_0d0 (P : Params) : List DictEntry := [⟨(PyData.keyHash P (Str.ofString "__module__")), (.str (Str.ofString "__module__") 227), (.str (Str.ofString "_frozen_importlib") 217)⟩, ⟨(PyData.keyHash P (Str.ofString "__firstlineno__")), (.str (Str.ofString "__firstlineno__") 228), (.int 562 218)⟩, ⟨(PyData.keyHash P (Str.ofString "__doc__")), (.str (Str.ofString "__doc__") 229), (.builtin "_frozen_importlib.ModuleSpec.__doc__:str#opaque")⟩, ⟨(PyData.keyHash P (Str.ofString "__init__")), (.str (Str.ofString "__init__") 230), (.builtin "_frozen_importlib.ModuleSpec.__init__#opaque")⟩, ⟨(PyData.keyHash P (Str.ofString "__repr__")), (.str (Str.ofString "__repr__") 231), (.builtin "_frozen_importlib.ModuleSpec.__repr__#opaque")⟩, ⟨(PyData.keyHash P (Str.ofString "__eq__")), (.str (Str.ofString "__eq__") 232), (.builtin "_frozen_importlib.ModuleSpec.__eq__#opaque")⟩]
noncomputable def o21_0d1 (P : Params) : List DictEntry := [⟨(PyData.keyHash P (Str.ofString "cached")), (.str (Str.ofString "cached") 233), (.builtin "_frozen_importlib.ModuleSpec.cached#opaque")⟩, ⟨(PyData.keyHash P (Str.ofString "parent")), (.str (Str.ofString "parent") 234), (.builtin "_frozen_importlib.ModuleSpec.parent#opaque")⟩, ⟨(PyData.keyHash P (Str.ofString "has_location")), (.str (Str.ofString "has_location") 235), (.builtin "_frozen_importlib.ModuleSpec.has_location#opaque")⟩, ⟨(PyData.keyHash P (Str.ofString "__static_attributes__")), (.str (Str.ofString "__static_attributes__") 236), (.ref 23)⟩, ⟨(PyData.keyHash P (Str.ofString "__dict__")), (.str (Str.ofString "__dict__") 238), (.ref 24)⟩, ⟨(PyData.keyHash P (Str.ofString "__weakref__")), (.str (Str.ofString "__weakref__") 240), (.ref 25)⟩]
noncomputable def o21_0d2 (P : Params) : List DictEntry := [⟨(PyData.keyHash P (Str.ofString "__hash__")), (.str (Str.ofString "__hash__") 241), .none⟩]
noncomputable def o21_0 (P : Params) : Obj := ⟨(.type "dict"), none, (.dict (o21_0d0 P ++ (o21_0d1 P ++ (o21_0d2 P))).toArray 13), [].toArray⟩
noncomputable def o22_0 (P : Params) : Obj := ⟨(.type "type"), none, (.cls { name := (Str.ofString "ModuleSpec"), bases := [(.type "object")], mro := [(.ref 22), (.type "object")], ns := 21, qualname := (Str.ofString "ModuleSpec"), hasDict := true, slotNames := [], subclasses := [], abstract := false, collection := none, hasDel := false }), [].toArray⟩
noncomputable def o23_0 (P : Params) : Obj := ⟨(.type "tuple"), none, (.seq [(.str (Str.ofString "_cached") 219), (.str (Str.ofString "_set_fileattr") 220), (.str (Str.ofString "_uninitialized_submodules") 221), (.str (Str.ofString "loader") 222), (.str (Str.ofString "loader_state") 223), (.str (Str.ofString "name") 224), (.str (Str.ofString "origin") 225), (.str (Str.ofString "submodule_search_locations") 226)].toArray 0), [].toArray⟩
noncomputable def o24_0 (P : Params) : Obj := ⟨(.type "getset_descriptor"), none, (.fields [(.str (Str.ofString "__dict__") 237), (.ref 22), (.builtin "function.__dict__"), (.builtin "function.__dict__#set")].toArray), [].toArray⟩
noncomputable def o25_0 (P : Params) : Obj := ⟨(.type "getset_descriptor"), none, (.fields [(.str (Str.ofString "__weakref__") 239), (.ref 22), (.builtin "ExceptionGroup.__weakref__"), .none].toArray), [].toArray⟩
noncomputable def o26_0 (P : Params) : Obj := ⟨(.ref 22), (some 20), .plain, [].toArray⟩
noncomputable def o27_0 (P : Params) : Obj := ⟨.none, none, (.seq [(.int 11 0), (.str (Str.mk [6, 247, 8, 95, 95, 110, 97, 109, 101, 95, 95, 6, 246, 4, 95, 115, 114, 101, 6, 248, 7, 95, 95, 100, 111, 99, 95, 95, 0, 6, 250, 11, 95, 95, 112, 97, 99, 107, 97, 103, 101, 95, 95, 6, 249, 0, 6, 251, 10, 95, 95, 108, 111, 97, 100, 101, 114, 95, 95, 4, 0, 0, 14, 6, 252, 8, 95, 95, 115, 112, 101, 99, 95, 95, 4, 0, 0, 26, 6, 253, 7, 99, 111, 109, 112, 105, 108, 101, 9, 12, 95, 115, 114, 101, 46, 99, 111, 109, 112, 105, 108, 101, 6, 254, 8, 116, 101, 109, 112, 108, 97, 116, 101, 9, 13, 95, 115, 114, 101, 46, 116, 101, 109, 112, 108, 97, 116, 101, 6, 255, 11, 103, 101, 116, 99, 111, 100, 101, 115, 105, 122, 101, 9, 16, 95, 115, 114, 101, 46, 103, 101, 116, 99, 111, 100, 101, 115, 105, 122, 101, 6, 256, 13, 97, 115, 99, 105, 105, 95, 105, 115, 99, 97, 115, 101, 100, 9, 18, 95, 115, 114, 101, 46, 97, 115, 99, 105, 105, 95, 105, 115, 99, 97, 115, 101, 100, 6, 257, 15, 117, 110, 105, 99, 111, 100, 101, 95, 105, 115, 99, 97, 115, 101, 100, 9, 20, 95, 115, 114, 101, 46, 117, 110, 105, 99, 111, 100, 101, 95, 105, 115, 99, 97, 115, 101, 100, 6, 258, 13, 97, 115, 99, 105, 105, 95, 116, 111, 108, 111, 119, 101, 114, 9, 18, 95, 115, 114, 101, 46, 97, 115, 99, 105, 105, 95, 116, 111, 108, 111, 119, 101, 114, 6, 259, 15, 117, 110, 105, 99, 111, 100, 101, 95, 116, 111, 108, 111, 119, 101, 114, 9, 20, 95, 115, 114, 101, 46, 117, 110, 105, 99, 111, 100, 101, 95, 116, 111, 108, 111, 119, 101, 114, 6, 261, 5, 77, 65, 71, 73, 67, 4, 260, 0, 20230612, 6, 263, 8, 67, 79, 68, 69, 83, 73, 90, 69, 4, 262, 0, 4, 6, 265, 9, 77, 65, 88, 82, 69, 80, 69, 65, 84, 4, 264, 0, 4294967295, 6, 267, 9, 77, 65, 88, 71, 82, 79, 85, 80, 83, 4, 266, 0, 1073741823, 6, 269, 9, 99, 111, 112, 121, 114, 105, 103, 104, 116, 6, 268, 53, 32, 83, 82, 69, 32, 50, 46, 50, 46, 50, 32, 67, 111, 112, 121, 114, 105, 103, 104, 116, 32, 40, 99, 41, 32, 49, 57, 57, 55, 45, 50, 48, 48, 50, 32, 98, 121, 32, 83, 101, 99, 114, 101, 116, 32, 76, 97, 98, 115, 32, 65, 66, 32].toArray) 0), (.bool true), (.bool false), (.str (Str.ofString "_sre") 271)].toArray 0), [].toArray⟩
noncomputable def o28_1 (P : Params) : Obj := ⟨(.type "tuple"), none, (.seq [].toArray 0), [].toArray⟩
noncomputable def o29_1 (P : Params) : Obj := ⟨.none, none, (.fields [].toArray), [].toArray⟩
noncomputable def o30_1 (P : Params) : Obj := ⟨(.type "code"), none, (.fields [(.str (Str.ofString "<module>") 277), (.str (Str.ofString "<module>") 278), (.str (Str.ofString "/claim/cut.py") 279), (.int 1 0), (.int 0 0), (.int 0 0), (.int 0 0), (.int 0 0), (.ref 28), (.bool false), (.int 276 0), (.ref 29), .none, .none, .none, .none, (.int 280 0), (.int 1 0), (.str (Str.ofString "/claim/cut.py") 281)].toArray), [].toArray⟩
noncomputable def o31_1 (P : Params) : Obj := ⟨(.type "frame"), none, .plain, [(some (.ref 30)), (some (.ref 3)), (some (.ref 3)), none, (some (.str (Str.ofString "__main__") 164)), none, (some (.ref 0))].toArray⟩
noncomputable def o3_2d0 (P : Params) : List DictEntry := [⟨(PyData.keyHash P (Str.ofString "__name__")), (.str (Str.ofString "__name__") 165), (.str (Str.ofString "cpy313.imaplib") 372)⟩, ⟨(PyData.keyHash P (Str.ofString "__doc__")), (.str (Str.ofString "__doc__") 166), .none⟩, ⟨(PyData.keyHash P (Str.ofString "__package__")), (.str (Str.ofString "__package__") 167), .none⟩, ⟨(PyData.keyHash P (Str.ofString "__loader__")), (.str (Str.ofString "__loader__") 168), (.builtin "__main__.__loader__#opaque")⟩, ⟨(PyData.keyHash P (Str.ofString "__spec__")), (.str (Str.ofString "__spec__") 169), .none⟩, ⟨(PyData.keyHash P (Str.ofString "__annotations__")), (.str (Str.ofString "__annotations__") 170), (.ref 6)⟩]
noncomputable def o3_2d1 (P : Params) : List DictEntry := [⟨(PyData.keyHash P (Str.ofString "__builtins__")), (.str (Str.ofString "__builtins__") 171), (.ref 4)⟩, ⟨(PyData.keyHash P (Str.ofString "__file__")), (.str (Str.ofString "__file__") 173), (.str (Str.ofString "/claim/cut.py") 172)⟩, ⟨(PyData.keyHash P (Str.ofString "__cached__")), (.str (Str.ofString "__cached__") 174), .none⟩, ⟨(PyData.keyHash P (Str.ofString "_sre")), (.str (Str.ofString "_sre") 275), (.ref 12)⟩, ⟨(PyData.keyHash P (Str.ofString "_wall")), (.str (Str.ofString "_wall") 288), (.ref 38)⟩, ⟨(PyData.keyHash P (Str.ofString "Error")), (.str (Str.ofString "Error") 308), (.ref 48)⟩]
noncomputable def o3_2d2 (P : Params) : List DictEntry := [⟨(PyData.keyHash P (Str.ofString "_ascii_buffer")), (.str (Str.ofString "_ascii_buffer") 316), (.ref 58)⟩, ⟨(PyData.keyHash P (Str.ofString "_buffer")), (.str (Str.ofString "_buffer") 324), (.ref 65)⟩, ⟨(PyData.keyHash P (Str.ofString "_truth")), (.str (Str.ofString "_truth") 332), (.ref 72)⟩, ⟨(PyData.keyHash P (Str.ofString "_B64")), (.str (Str.ofString "_B64") 334), (.bytes #[65, 66, 67, 68, 69, 70, 71, 72, 73, 74, 75, 76, 77, 78, 79, 80, 81, 82, 83, 84, 85, 86, 87, 88, 89, 90, 97, 98, 99, 100, 101, 102, 103, 104, 105, 106, 107, 108, 109, 110, 111, 112, 113, 114, 115, 116, 117, 118, 119, 120, 121, 122, 48, 49, 50, 51, 52, 53, 54, 55, 56, 57, 43, 47] 333)⟩, ⟨(PyData.keyHash P (Str.ofString "_b64_value")), (.str (Str.ofString "_b64_value") 341), (.ref 79)⟩, ⟨(PyData.keyHash P (Str.ofString "a2b_base64")), (.str (Str.ofString "a2b_base64") 357), (.ref 87)⟩]
noncomputable def o3_2d3 (P : Params) : List DictEntry := [⟨(PyData.keyHash P (Str.ofString "b2a_base64")), (.str (Str.ofString "b2a_base64") 371), (.ref 95)⟩]
noncomputable def o3_2 (P : Params) : Obj := ⟨(.type "dict"), none, (.dict (o3_2d0 P ++ (o3_2d1 P ++ (o3_2d2 P ++ (o3_2d3 P)))).toArray 19), [].toArray⟩
noncomputable def o29_2 (P : Params) : Obj := ⟨.none, none, (.fields [(.int 2 0), (.int 0 0), (.ref 37), (.int 6 0), (.int 0 0), (.ref 44), (.int 8 0), (.int 0 0), (.ref 57), (.int 19 0), (.int 0 0), (.ref 64), (.int 26 0), (.int 0 0), (.ref 71), (.int 32 0), (.int 0 0), (.ref 78), (.int 44 0), (.int 0 0), (.ref 86), (.int 98 0), (.int 0 0), (.ref 94)].toArray), [].toArray⟩
noncomputable def o32_2 (P : Params) : Obj := ⟨(.type "tuple"), none, (.seq [].toArray 0), [].toArray⟩
noncomputable def o33_2 (P : Params) : Obj := ⟨.none, none, (.fields [].toArray), [].toArray⟩
noncomputable def o34_2 (P : Params) : Obj := ⟨(.type "tuple"), none, (.seq [(.str (Str.ofString "k") 285)].toArray 0), [].toArray⟩
noncomputable def o35_2 (P : Params) : Obj := ⟨(.type "tuple"), none, (.seq [].toArray 0), [].toArray⟩
noncomputable def v36_2 (T M : Nat → Stmt) (Z : Rowz) (P : Params) : Obj := ⟨.none, none, (.func { name := (Str.ofString "_wall"), qualname := (Str.ofString "_wall"), params := (ar1), body := (.stmts (fnBody (T 1))), scope := (sc1), globals := 0, closure := [], defaults := .none, kwdefaults := .none, doc := .none, pyModule := .none, annotations := none, code := .none, closureTuple := .none, builtins := 0 }), [].toArray⟩
noncomputable def o37_2 (P : Params) : Obj := ⟨(.type "code"), none, (.fields [(.str (Str.ofString "_wall") 282), (.str (Str.ofString "_wall") 283), (.str (Str.ofString "/claim/cut.py") 284), (.int 2 0), (.int 1 0), (.int 0 0), (.int 0 0), (.int 3 0), (.ref 32), (.bool true), (.int 276 0), (.ref 33), .none, (.ref 34), (.ref 35), (.ref 36), (.int 286 0), (.int 2 0), (.str (Str.ofString "/claim/cut.py") 287)].toArray), [].toArray⟩
noncomputable def v38_2 (T M : Nat → Stmt) (Z : Rowz) (P : Params) : Obj := ⟨(.type "function"), none, (.func { name := (Str.ofString "_wall"), qualname := (Str.ofString "_wall"), params := (ar1), body := (.stmts (fnBody (T 1))), scope := (sc1), globals := 3, closure := [], defaults := .none, kwdefaults := .none, doc := .none, pyModule := (.str (Str.ofString "__main__") 164), annotations := none, code := (.ref 37), closureTuple := .none, builtins := 0 }), [].toArray⟩
noncomputable def o39_2 (P : Params) : Obj := ⟨(.type "tuple"), none, (.seq [(.type "ValueError")].toArray 0), [].toArray⟩
noncomputable def o40_2 (P : Params) : Obj := ⟨(.type "builtin_function_or_method"), none, (.fields [(.builtin "type.__prepare__"), (.type "type")].toArray), [].toArray⟩
noncomputable def o41_2 (P : Params) : Obj := ⟨(.type "dict"), none, (.dict [⟨(PyData.keyHash P (Str.ofString "__module__")), (.str (Str.ofString "__module__") 298), (.str (Str.ofString "binascii") 289)⟩, ⟨(PyData.keyHash P (Str.ofString "__qualname__")), (.str (Str.ofString "__qualname__") 300), (.str (Str.ofString "Error") 299)⟩, ⟨(PyData.keyHash P (Str.ofString "__firstlineno__")), (.str (Str.ofString "__firstlineno__") 302), (.int 6 301)⟩, ⟨(PyData.keyHash P (Str.ofString "__static_attributes__")), (.str (Str.ofString "__static_attributes__") 303), (.ref 46)⟩].toArray 4), [].toArray⟩
noncomputable def o42_2 (P : Params) : Obj := ⟨(.type "tuple"), none, (.seq [].toArray 0), [].toArray⟩
noncomputable def o43_2 (P : Params) : Obj := ⟨.none, none, (.fields [].toArray), [].toArray⟩
noncomputable def o44_2 (P : Params) : Obj := ⟨(.type "code"), none, (.fields [(.str (Str.ofString "Error") 293), (.str (Str.ofString "Error") 294), (.str (Str.ofString "/claim/cut.py") 295), (.int 6 0), (.int 0 0), (.int 0 0), (.int 0 0), (.int 0 0), (.ref 42), (.bool false), (.int 276 0), (.ref 43), .none, .none, .none, .none, (.int 296 0), (.int 6 0), (.str (Str.ofString "/claim/cut.py") 297)].toArray), [].toArray⟩
noncomputable def o45_2 (P : Params) : Obj := ⟨(.type "frame"), none, .plain, [(some (.ref 44)), (some (.ref 3)), (some (.ref 41)), none, (some (.str (Str.ofString "binascii") 289)), none, (some (.ref 0))].toArray⟩
noncomputable def o46_2 (P : Params) : Obj := ⟨(.type "tuple"), none, (.seq [].toArray 0), [].toArray⟩
noncomputable def o47_2 (P : Params) : Obj := ⟨(.type "dict"), none, (.dict [⟨(PyData.keyHash P (Str.ofString "__module__")), (.str (Str.ofString "__module__") 298), (.str (Str.ofString "binascii") 289)⟩, ⟨(PyData.keyHash P (Str.ofString "__firstlineno__")), (.str (Str.ofString "__firstlineno__") 302), (.int 6 301)⟩, ⟨(PyData.keyHash P (Str.ofString "__static_attributes__")), (.str (Str.ofString "__static_attributes__") 303), (.ref 46)⟩, ⟨(PyData.keyHash P (Str.ofString "__weakref__")), (.str (Str.ofString "__weakref__") 305), (.ref 49)⟩, ⟨(PyData.keyHash P (Str.ofString "__doc__")), (.str (Str.ofString "__doc__") 306), .none⟩].toArray 3), [].toArray⟩
noncomputable def o48_2 (P : Params) : Obj := ⟨(.type "type"), none, (.cls { name := (Str.ofString "Error"), bases := [(.type "ValueError")], mro := [(.ref 48), (.type "ValueError"), (.type "Exception"), (.type "BaseException"), (.type "object")], ns := 47, qualname := (Str.ofString "Error"), hasDict := true, slotNames := [], subclasses := [], abstract := false, collection := none, hasDel := false }), [(some (.ref 39)), none, (some (.str (Str.ofString "Error") 291)), (some (.str (Str.ofString "Error") 299)), (some (.builtin "ValueError.__new__")), (some (.bool true))].toArray⟩
noncomputable def o49_2 (P : Params) : Obj := ⟨(.type "getset_descriptor"), none, (.fields [(.str (Str.ofString "__weakref__") 304), (.ref 48), (.builtin "ExceptionGroup.__weakref__"), .none].toArray), [].toArray⟩
noncomputable def o50_2 (P : Params) : Obj := ⟨(.type "super"), none, (.fields [(.ref 48), (.ref 48), (.ref 48)].toArray), [].toArray⟩
noncomputable def o51_2 (P : Params) : Obj := ⟨(.type "builtin_function_or_method"), none, (.fields [(.builtin "object.__init_subclass__"), (.ref 48)].toArray), [].toArray⟩
noncomputable def o52_2 (P : Params) : Obj := ⟨(.type "tuple"), none, (.seq [].toArray 0), [].toArray⟩
noncomputable def o53_2 (P : Params) : Obj := ⟨.none, none, (.fields [].toArray), [].toArray⟩
noncomputable def o54_2 (P : Params) : Obj := ⟨(.type "tuple"), none, (.seq [(.str (Str.ofString "data") 312), (.str (Str.ofString "t") 313)].toArray 0), [].toArray⟩
noncomputable def o55_2 (P : Params) : Obj := ⟨(.type "tuple"), none, (.seq [].toArray 0), [].toArray⟩
noncomputable def v56_2 (T M : Nat → Stmt) (Z : Rowz) (P : Params) : Obj := ⟨.none, none, (.func { name := (Str.ofString "_ascii_buffer"), qualname := (Str.ofString "_ascii_buffer"), params := (ar4), body := (.stmts (fnBody (T 4))), scope := (sc4), globals := 0, closure := [], defaults := .none, kwdefaults := .none, doc := .none, pyModule := .none, annotations := none, code := .none, closureTuple := .none, builtins := 0 }), [].toArray⟩
noncomputable def o57_2 (P : Params) : Obj := ⟨(.type "code"), none, (.fields [(.str (Str.ofString "_ascii_buffer") 309), (.str (Str.ofString "_ascii_buffer") 310), (.str (Str.ofString "/claim/cut.py") 311), (.int 8 0), (.int 1 0), (.int 0 0), (.int 0 0), (.int 3 0), (.ref 52), (.bool true), (.int 276 0), (.ref 53), .none, (.ref 54), (.ref 55), (.ref 56), (.int 314 0), (.int 8 0), (.str (Str.ofString "/claim/cut.py") 315)].toArray), [].toArray⟩
noncomputable def v58_2 (T M : Nat → Stmt) (Z : Rowz) (P : Params) : Obj := ⟨(.type "function"), none, (.func { name := (Str.ofString "_ascii_buffer"), qualname := (Str.ofString "_ascii_buffer"), params := (ar4), body := (.stmts (fnBody (T 4))), scope := (sc4), globals := 3, closure := [], defaults := .none, kwdefaults := .none, doc := .none, pyModule := (.str (Str.ofString "binascii") 289), annotations := none, code := (.ref 57), closureTuple := .none, builtins := 0 }), [].toArray⟩
noncomputable def o59_2 (P : Params) : Obj := ⟨(.type "tuple"), none, (.seq [].toArray 0), [].toArray⟩
noncomputable def o60_2 (P : Params) : Obj := ⟨.none, none, (.fields [].toArray), [].toArray⟩
noncomputable def o61_2 (P : Params) : Obj := ⟨(.type "tuple"), none, (.seq [(.str (Str.ofString "data") 320), (.str (Str.ofString "t") 321)].toArray 0), [].toArray⟩
noncomputable def o62_2 (P : Params) : Obj := ⟨(.type "tuple"), none, (.seq [].toArray 0), [].toArray⟩
noncomputable def v63_2 (T M : Nat → Stmt) (Z : Rowz) (P : Params) : Obj := ⟨.none, none, (.func { name := (Str.ofString "_buffer"), qualname := (Str.ofString "_buffer"), params := (ar5), body := (.stmts (fnBody (T 5))), scope := (sc5), globals := 0, closure := [], defaults := .none, kwdefaults := .none, doc := .none, pyModule := .none, annotations := none, code := .none, closureTuple := .none, builtins := 0 }), [].toArray⟩
noncomputable def o64_2 (P : Params) : Obj := ⟨(.type "code"), none, (.fields [(.str (Str.ofString "_buffer") 317), (.str (Str.ofString "_buffer") 318), (.str (Str.ofString "/claim/cut.py") 319), (.int 19 0), (.int 1 0), (.int 0 0), (.int 0 0), (.int 3 0), (.ref 59), (.bool true), (.int 276 0), (.ref 60), .none, (.ref 61), (.ref 62), (.ref 63), (.int 322 0), (.int 19 0), (.str (Str.ofString "/claim/cut.py") 323)].toArray), [].toArray⟩
noncomputable def v65_2 (T M : Nat → Stmt) (Z : Rowz) (P : Params) : Obj := ⟨(.type "function"), none, (.func { name := (Str.ofString "_buffer"), qualname := (Str.ofString "_buffer"), params := (ar5), body := (.stmts (fnBody (T 5))), scope := (sc5), globals := 3, closure := [], defaults := .none, kwdefaults := .none, doc := .none, pyModule := (.str (Str.ofString "binascii") 289), annotations := none, code := (.ref 64), closureTuple := .none, builtins := 0 }), [].toArray⟩
noncomputable def o66_2 (P : Params) : Obj := ⟨(.type "tuple"), none, (.seq [].toArray 0), [].toArray⟩
noncomputable def o67_2 (P : Params) : Obj := ⟨.none, none, (.fields [].toArray), [].toArray⟩
noncomputable def o68_2 (P : Params) : Obj := ⟨(.type "tuple"), none, (.seq [(.str (Str.ofString "x") 328), (.str (Str.ofString "t") 329)].toArray 0), [].toArray⟩
noncomputable def o69_2 (P : Params) : Obj := ⟨(.type "tuple"), none, (.seq [].toArray 0), [].toArray⟩
noncomputable def v70_2 (T M : Nat → Stmt) (Z : Rowz) (P : Params) : Obj := ⟨.none, none, (.func { name := (Str.ofString "_truth"), qualname := (Str.ofString "_truth"), params := (ar6), body := (.stmts (fnBody (T 6))), scope := (sc6), globals := 0, closure := [], defaults := .none, kwdefaults := .none, doc := .none, pyModule := .none, annotations := none, code := .none, closureTuple := .none, builtins := 0 }), [].toArray⟩
noncomputable def o71_2 (P : Params) : Obj := ⟨(.type "code"), none, (.fields [(.str (Str.ofString "_truth") 325), (.str (Str.ofString "_truth") 326), (.str (Str.ofString "/claim/cut.py") 327), (.int 26 0), (.int 1 0), (.int 0 0), (.int 0 0), (.int 3 0), (.ref 66), (.bool true), (.int 276 0), (.ref 67), .none, (.ref 68), (.ref 69), (.ref 70), (.int 330 0), (.int 26 0), (.str (Str.ofString "/claim/cut.py") 331)].toArray), [].toArray⟩
noncomputable def v72_2 (T M : Nat → Stmt) (Z : Rowz) (P : Params) : Obj := ⟨(.type "function"), none, (.func { name := (Str.ofString "_truth"), qualname := (Str.ofString "_truth"), params := (ar6), body := (.stmts (fnBody (T 6))), scope := (sc6), globals := 3, closure := [], defaults := .none, kwdefaults := .none, doc := .none, pyModule := (.str (Str.ofString "binascii") 289), annotations := none, code := (.ref 71), closureTuple := .none, builtins := 0 }), [].toArray⟩
noncomputable def o73_2 (P : Params) : Obj := ⟨(.type "tuple"), none, (.seq [].toArray 0), [].toArray⟩
noncomputable def o74_2 (P : Params) : Obj := ⟨.none, none, (.fields [].toArray), [].toArray⟩
noncomputable def o75_2 (P : Params) : Obj := ⟨(.type "tuple"), none, (.seq [(.str (Str.ofString "c") 338)].toArray 0), [].toArray⟩
noncomputable def o76_2 (P : Params) : Obj := ⟨(.type "tuple"), none, (.seq [].toArray 0), [].toArray⟩
noncomputable def v77_2 (T M : Nat → Stmt) (Z : Rowz) (P : Params) : Obj := ⟨.none, none, (.func { name := (Str.ofString "_b64_value"), qualname := (Str.ofString "_b64_value"), params := (ar8), body := (.stmts (fnBody (T 8))), scope := (sc8), globals := 0, closure := [], defaults := .none, kwdefaults := .none, doc := .none, pyModule := .none, annotations := none, code := .none, closureTuple := .none, builtins := 0 }), [].toArray⟩
noncomputable def o78_2 (P : Params) : Obj := ⟨(.type "code"), none, (.fields [(.str (Str.ofString "_b64_value") 335), (.str (Str.ofString "_b64_value") 336), (.str (Str.ofString "/claim/cut.py") 337), (.int 32 0), (.int 1 0), (.int 0 0), (.int 0 0), (.int 3 0), (.ref 73), (.bool true), (.int 276 0), (.ref 74), .none, (.ref 75), (.ref 76), (.ref 77), (.int 339 0), (.int 32 0), (.str (Str.ofString "/claim/cut.py") 340)].toArray), [].toArray⟩
noncomputable def v79_2 (T M : Nat → Stmt) (Z : Rowz) (P : Params) : Obj := ⟨(.type "function"), none, (.func { name := (Str.ofString "_b64_value"), qualname := (Str.ofString "_b64_value"), params := (ar8), body := (.stmts (fnBody (T 8))), scope := (sc8), globals := 3, closure := [], defaults := .none, kwdefaults := .none, doc := .none, pyModule := (.str (Str.ofString "binascii") 289), annotations := none, code := (.ref 78), closureTuple := .none, builtins := 0 }), [].toArray⟩
noncomputable def o80_2 (P : Params) : Obj := ⟨(.type "dict"), none, (.dict [⟨(PyData.keyHash P (Str.ofString "strict_mode")), (.str (Str.ofString "strict_mode") 342), (.bool false)⟩].toArray 1), [].toArray⟩
noncomputable def o81_2 (P : Params) : Obj := ⟨(.type "tuple"), none, (.seq [].toArray 0), [].toArray⟩
noncomputable def o82_2 (P : Params) : Obj := ⟨.none, none, (.fields [].toArray), [].toArray⟩
noncomputable def o83_2 (P : Params) : Obj := ⟨(.type "tuple"), none, (.seq [(.str (Str.ofString "data") 346), (.str (Str.ofString "strict_mode") 347), (.str (Str.ofString "ascii_data") 348), (.str (Str.ofString "out") 349), (.str (Str.ofString "quad_pos") 350), (.str (Str.ofString "leftchar") 351), (.str (Str.ofString "pads") 352), (.str (Str.ofString "i") 353), (.str (Str.ofString "this_ch") 354)].toArray 0), [].toArray⟩
noncomputable def o84_2 (P : Params) : Obj := ⟨(.type "tuple"), none, (.seq [].toArray 0), [].toArray⟩
noncomputable def v85_2 (T M : Nat → Stmt) (Z : Rowz) (P : Params) : Obj := ⟨.none, none, (.func { name := (Str.ofString "a2b_base64"), qualname := (Str.ofString "a2b_base64"), params := (ar9), body := (.stmts (fnBody (T 9))), scope := (sc9), globals := 0, closure := [], defaults := .none, kwdefaults := .none, doc := .none, pyModule := .none, annotations := none, code := .none, closureTuple := .none, builtins := 0 }), [].toArray⟩
noncomputable def o86_2 (P : Params) : Obj := ⟨(.type "code"), none, (.fields [(.str (Str.ofString "a2b_base64") 343), (.str (Str.ofString "a2b_base64") 344), (.str (Str.ofString "/claim/cut.py") 345), (.int 44 0), (.int 1 0), (.int 1 0), (.int 1 0), (.int 3 0), (.ref 81), (.bool true), (.int 276 0), (.ref 82), .none, (.ref 83), (.ref 84), (.ref 85), (.int 355 0), (.int 44 0), (.str (Str.ofString "/claim/cut.py") 356)].toArray), [].toArray⟩
noncomputable def v87_2 (T M : Nat → Stmt) (Z : Rowz) (P : Params) : Obj := ⟨(.type "function"), none, (.func { name := (Str.ofString "a2b_base64"), qualname := (Str.ofString "a2b_base64"), params := (ar9), body := (.stmts (fnBody (T 9))), scope := (sc9), globals := 3, closure := [], defaults := .none, kwdefaults := (.ref 80), doc := .none, pyModule := (.str (Str.ofString "binascii") 289), annotations := none, code := (.ref 86), closureTuple := .none, builtins := 0 }), [].toArray⟩
noncomputable def o88_2 (P : Params) : Obj := ⟨(.type "dict"), none, (.dict [⟨(PyData.keyHash P (Str.ofString "newline")), (.str (Str.ofString "newline") 358), (.bool true)⟩].toArray 1), [].toArray⟩
noncomputable def o89_2 (P : Params) : Obj := ⟨(.type "tuple"), none, (.seq [].toArray 0), [].toArray⟩
noncomputable def o90_2 (P : Params) : Obj := ⟨.none, none, (.fields [].toArray), [].toArray⟩
noncomputable def o91_2 (P : Params) : Obj := ⟨(.type "tuple"), none, (.seq [(.str (Str.ofString "data") 362), (.str (Str.ofString "newline") 363), (.str (Str.ofString "bin_data") 364), (.str (Str.ofString "out") 365), (.str (Str.ofString "leftbits") 366), (.str (Str.ofString "leftchar") 367), (.str (Str.ofString "b") 368)].toArray 0), [].toArray⟩
noncomputable def o92_2 (P : Params) : Obj := ⟨(.type "tuple"), none, (.seq [].toArray 0), [].toArray⟩
noncomputable def v93_2 (T M : Nat → Stmt) (Z : Rowz) (P : Params) : Obj := ⟨.none, none, (.func { name := (Str.ofString "b2a_base64"), qualname := (Str.ofString "b2a_base64"), params := (ar10), body := (.stmts (fnBody (T 10))), scope := (sc10), globals := 0, closure := [], defaults := .none, kwdefaults := .none, doc := .none, pyModule := .none, annotations := none, code := .none, closureTuple := .none, builtins := 0 }), [].toArray⟩
noncomputable def o94_2 (P : Params) : Obj := ⟨(.type "code"), none, (.fields [(.str (Str.ofString "b2a_base64") 359), (.str (Str.ofString "b2a_base64") 360), (.str (Str.ofString "/claim/cut.py") 361), (.int 98 0), (.int 1 0), (.int 1 0), (.int 1 0), (.int 3 0), (.ref 89), (.bool true), (.int 276 0), (.ref 90), .none, (.ref 91), (.ref 92), (.ref 93), (.int 369 0), (.int 98 0), (.str (Str.ofString "/claim/cut.py") 370)].toArray), [].toArray⟩
noncomputable def v95_2 (T M : Nat → Stmt) (Z : Rowz) (P : Params) : Obj := ⟨(.type "function"), none, (.func { name := (Str.ofString "b2a_base64"), qualname := (Str.ofString "b2a_base64"), params := (ar10), body := (.stmts (fnBody (T 10))), scope := (sc10), globals := 3, closure := [], defaults := .none, kwdefaults := (.ref 88), doc := .none, pyModule := (.str (Str.ofString "binascii") 289), annotations := none, code := (.ref 94), closureTuple := .none, builtins := 0 }), [].toArray⟩
noncomputable def o3_3d0 (P : Params) : List DictEntry := [⟨(PyData.keyHash P (Str.ofString "__name__")), (.str (Str.ofString "__name__") 165), (.str (Str.ofString "cpy313.stringprep") 500)⟩, ⟨(PyData.keyHash P (Str.ofString "__doc__")), (.str (Str.ofString "__doc__") 166), .none⟩, ⟨(PyData.keyHash P (Str.ofString "__package__")), (.str (Str.ofString "__package__") 167), .none⟩, ⟨(PyData.keyHash P (Str.ofString "__loader__")), (.str (Str.ofString "__loader__") 168), (.builtin "__main__.__loader__#opaque")⟩, ⟨(PyData.keyHash P (Str.ofString "__spec__")), (.str (Str.ofString "__spec__") 169), .none⟩, ⟨(PyData.keyHash P (Str.ofString "__annotations__")), (.str (Str.ofString "__annotations__") 170), (.ref 6)⟩]
noncomputable def o3_3d3 (P : Params) : List DictEntry := [⟨(PyData.keyHash P (Str.ofString "b2a_base64")), (.str (Str.ofString "b2a_base64") 371), (.ref 95)⟩, ⟨(PyData.keyHash P (Str.ofString "_Authenticator")), (.str (Str.ofString "_Authenticator") 430), (.ref 133)⟩, ⟨(PyData.keyHash P (Str.ofString "_twin_re_1")), (.str (Str.ofString "_twin_re_1") 448), (.ref 142)⟩, ⟨(PyData.keyHash P (Str.ofString "_twin_re_2")), (.str (Str.ofString "_twin_re_2") 490), (.ref 147)⟩, ⟨(PyData.keyHash P (Str.ofString "CRLF")), (.str (Str.ofString "CRLF") 492), (.str (Str.ofString "\x0d\n") 491)⟩, ⟨(PyData.keyHash P (Str.ofString "quotedata")), (.str (Str.ofString "quotedata") 499), (.ref 154)⟩]
noncomputable def o3_3 (P : Params) : Obj := ⟨(.type "dict"), none, (.dict (o3_3d0 P ++ (o3_2d1 P ++ (o3_2d2 P ++ (o3_3d3 P)))).toArray 24), [].toArray⟩
noncomputable def o29_3 (P : Params) : Obj := ⟨.none, none, (.fields [(.int 2 0), (.int 0 0), (.ref 37), (.int 6 0), (.int 0 0), (.ref 44), (.int 8 0), (.int 0 0), (.ref 57), (.int 19 0), (.int 0 0), (.ref 64), (.int 26 0), (.int 0 0), (.ref 71), (.int 32 0), (.int 0 0), (.ref 78), (.int 44 0), (.int 0 0), (.ref 86), (.int 98 0), (.int 0 0), (.ref 94), (.int 121 0), (.int 0 0), (.ref 101), (.int 156 0), (.int 0 0), (.ref 153)].toArray), [].toArray⟩
noncomputable def o96_3 (P : Params) : Obj := ⟨(.type "tuple"), none, (.seq [].toArray 0), [].toArray⟩
noncomputable def o97_3 (P : Params) : Obj := ⟨(.type "builtin_function_or_method"), none, (.fields [(.builtin "type.__prepare__"), (.type "type")].toArray), [].toArray⟩
noncomputable def o98_3 (P : Params) : Obj := ⟨(.type "dict"), none, (.dict [⟨(PyData.keyHash P (Str.ofString "__module__")), (.str (Str.ofString "__module__") 381), (.str (Str.ofString "cpy313.imaplib") 372)⟩, ⟨(PyData.keyHash P (Str.ofString "__qualname__")), (.str (Str.ofString "__qualname__") 383), (.str (Str.ofString "_Authenticator") 382)⟩, ⟨(PyData.keyHash P (Str.ofString "__firstlineno__")), (.str (Str.ofString "__firstlineno__") 385), (.int 121 384)⟩, ⟨(PyData.keyHash P (Str.ofString "__init__")), (.str (Str.ofString "__init__") 393), (.ref 109)⟩, ⟨(PyData.keyHash P (Str.ofString "process")), (.str (Str.ofString "process") 402), (.ref 116)⟩, ⟨(PyData.keyHash P (Str.ofString "encode")), (.str (Str.ofString "encode") 413), (.ref 123)⟩, ⟨(PyData.keyHash P (Str.ofString "decode")), (.str (Str.ofString "decode") 421), (.ref 130)⟩, ⟨(PyData.keyHash P (Str.ofString "__static_attributes__")), (.str (Str.ofString "__static_attributes__") 423), (.ref 131)⟩].toArray 8), [].toArray⟩
noncomputable def o99_3 (P : Params) : Obj := ⟨(.type "tuple"), none, (.seq [].toArray 0), [].toArray⟩
noncomputable def o100_3 (P : Params) : Obj := ⟨.none, none, (.fields [(.int 123 0), (.int 4 0), (.ref 108), (.int 126 0), (.int 4 0), (.ref 115), (.int 132 0), (.int 4 0), (.ref 122), (.int 148 0), (.int 4 0), (.ref 129)].toArray), [].toArray⟩
noncomputable def o101_3 (P : Params) : Obj := ⟨(.type "code"), none, (.fields [(.str (Str.ofString "_Authenticator") 376), (.str (Str.ofString "_Authenticator") 377), (.str (Str.ofString "/claim/cut.py") 378), (.int 121 0), (.int 0 0), (.int 0 0), (.int 0 0), (.int 0 0), (.ref 99), (.bool false), (.int 276 0), (.ref 100), .none, .none, .none, .none, (.int 379 0), (.int 121 0), (.str (Str.ofString "/claim/cut.py") 380)].toArray), [].toArray⟩
noncomputable def o102_3 (P : Params) : Obj := ⟨(.type "frame"), none, .plain, [(some (.ref 101)), (some (.ref 3)), (some (.ref 98)), none, (some (.str (Str.ofString "cpy313.imaplib") 372)), none, (some (.ref 0))].toArray⟩
noncomputable def o103_3 (P : Params) : Obj := ⟨(.type "tuple"), none, (.seq [].toArray 0), [].toArray⟩
noncomputable def o104_3 (P : Params) : Obj := ⟨.none, none, (.fields [].toArray), [].toArray⟩
noncomputable def o105_3 (P : Params) : Obj := ⟨(.type "tuple"), none, (.seq [(.str (Str.ofString "self") 389), (.str (Str.ofString "mechinst") 390)].toArray 0), [].toArray⟩
noncomputable def o106_3 (P : Params) : Obj := ⟨(.type "tuple"), none, (.seq [].toArray 0), [].toArray⟩
noncomputable def v107_3 (T M : Nat → Stmt) (Z : Rowz) (P : Params) : Obj := ⟨.none, none, (.func { name := (Str.ofString "__init__"), qualname := (Str.ofString "_Authenticator.__init__"), params := (am0), body := (.stmts (fnBody (M 0))), scope := (sm0), globals := 0, closure := [], defaults := .none, kwdefaults := .none, doc := .none, pyModule := .none, annotations := none, code := .none, closureTuple := .none, builtins := 0 }), [].toArray⟩
noncomputable def o108_3 (P : Params) : Obj := ⟨(.type "code"), none, (.fields [(.str (Str.ofString "__init__") 386), (.str (Str.ofString "_Authenticator.__init__") 387), (.str (Str.ofString "/claim/cut.py") 388), (.int 123 0), (.int 2 0), (.int 0 0), (.int 0 0), (.int 3 0), (.ref 103), (.bool true), (.int 276 0), (.ref 104), .none, (.ref 105), (.ref 106), (.ref 107), (.int 391 0), (.int 123 0), (.str (Str.ofString "/claim/cut.py") 392)].toArray), [].toArray⟩
noncomputable def v109_3 (T M : Nat → Stmt) (Z : Rowz) (P : Params) : Obj := ⟨(.type "function"), none, (.func { name := (Str.ofString "__init__"), qualname := (Str.ofString "_Authenticator.__init__"), params := (am0), body := (.stmts (fnBody (M 0))), scope := (sm0), globals := 3, closure := [], defaults := .none, kwdefaults := .none, doc := .none, pyModule := (.str (Str.ofString "cpy313.imaplib") 372), annotations := none, code := (.ref 108), closureTuple := .none, builtins := 0 }), [].toArray⟩
noncomputable def o110_3 (P : Params) : Obj := ⟨(.type "tuple"), none, (.seq [].toArray 0), [].toArray⟩
noncomputable def o111_3 (P : Params) : Obj := ⟨.none, none, (.fields [].toArray), [].toArray⟩
noncomputable def o112_3 (P : Params) : Obj := ⟨(.type "tuple"), none, (.seq [(.str (Str.ofString "self") 397), (.str (Str.ofString "data") 398), (.str (Str.ofString "ret") 399)].toArray 0), [].toArray⟩
noncomputable def o113_3 (P : Params) : Obj := ⟨(.type "tuple"), none, (.seq [].toArray 0), [].toArray⟩
noncomputable def v114_3 (T M : Nat → Stmt) (Z : Rowz) (P : Params) : Obj := ⟨.none, none, (.func { name := (Str.ofString "process"), qualname := (Str.ofString "_Authenticator.process"), params := (am1), body := (.stmts (fnBody (M 1))), scope := (sm1), globals := 0, closure := [], defaults := .none, kwdefaults := .none, doc := .none, pyModule := .none, annotations := none, code := .none, closureTuple := .none, builtins := 0 }), [].toArray⟩
noncomputable def o115_3 (P : Params) : Obj := ⟨(.type "code"), none, (.fields [(.str (Str.ofString "process") 394), (.str (Str.ofString "_Authenticator.process") 395), (.str (Str.ofString "/claim/cut.py") 396), (.int 126 0), (.int 2 0), (.int 0 0), (.int 0 0), (.int 3 0), (.ref 110), (.bool true), (.int 276 0), (.ref 111), .none, (.ref 112), (.ref 113), (.ref 114), (.int 400 0), (.int 126 0), (.str (Str.ofString "/claim/cut.py") 401)].toArray), [].toArray⟩
noncomputable def v116_3 (T M : Nat → Stmt) (Z : Rowz) (P : Params) : Obj := ⟨(.type "function"), none, (.func { name := (Str.ofString "process"), qualname := (Str.ofString "_Authenticator.process"), params := (am1), body := (.stmts (fnBody (M 1))), scope := (sm1), globals := 3, closure := [], defaults := .none, kwdefaults := .none, doc := .none, pyModule := (.str (Str.ofString "cpy313.imaplib") 372), annotations := none, code := (.ref 115), closureTuple := .none, builtins := 0 }), [].toArray⟩
noncomputable def o117_3 (P : Params) : Obj := ⟨(.type "tuple"), none, (.seq [].toArray 0), [].toArray⟩
noncomputable def o118_3 (P : Params) : Obj := ⟨.none, none, (.fields [].toArray), [].toArray⟩
noncomputable def o119_3 (P : Params) : Obj := ⟨(.type "tuple"), none, (.seq [(.str (Str.ofString "self") 406), (.str (Str.ofString "inp") 407), (.str (Str.ofString "oup") 408), (.str (Str.ofString "t") 409), (.str (Str.ofString "e") 410)].toArray 0), [].toArray⟩
noncomputable def o120_3 (P : Params) : Obj := ⟨(.type "tuple"), none, (.seq [].toArray 0), [].toArray⟩
noncomputable def v121_3 (T M : Nat → Stmt) (Z : Rowz) (P : Params) : Obj := ⟨.none, none, (.func { name := (Str.ofString "encode"), qualname := (Str.ofString "_Authenticator.encode"), params := (am2), body := (.stmts (fnBody (M 2))), scope := (sm2), globals := 0, closure := [], defaults := .none, kwdefaults := .none, doc := .none, pyModule := .none, annotations := none, code := .none, closureTuple := .none, builtins := 0 }), [].toArray⟩
noncomputable def o122_3 (P : Params) : Obj := ⟨(.type "code"), none, (.fields [(.str (Str.ofString "encode") 403), (.str (Str.ofString "_Authenticator.encode") 404), (.str (Str.ofString "/claim/cut.py") 405), (.int 132 0), (.int 2 0), (.int 0 0), (.int 0 0), (.int 3 0), (.ref 117), (.bool true), (.int 276 0), (.ref 118), .none, (.ref 119), (.ref 120), (.ref 121), (.int 411 0), (.int 132 0), (.str (Str.ofString "/claim/cut.py") 412)].toArray), [].toArray⟩
noncomputable def v123_3 (T M : Nat → Stmt) (Z : Rowz) (P : Params) : Obj := ⟨(.type "function"), none, (.func { name := (Str.ofString "encode"), qualname := (Str.ofString "_Authenticator.encode"), params := (am2), body := (.stmts (fnBody (M 2))), scope := (sm2), globals := 3, closure := [], defaults := .none, kwdefaults := .none, doc := .none, pyModule := (.str (Str.ofString "cpy313.imaplib") 372), annotations := none, code := (.ref 122), closureTuple := .none, builtins := 0 }), [].toArray⟩
noncomputable def o124_3 (P : Params) : Obj := ⟨(.type "tuple"), none, (.seq [].toArray 0), [].toArray⟩
noncomputable def o125_3 (P : Params) : Obj := ⟨.none, none, (.fields [].toArray), [].toArray⟩
noncomputable def o126_3 (P : Params) : Obj := ⟨(.type "tuple"), none, (.seq [(.str (Str.ofString "self") 417), (.str (Str.ofString "inp") 418)].toArray 0), [].toArray⟩
noncomputable def o127_3 (P : Params) : Obj := ⟨(.type "tuple"), none, (.seq [].toArray 0), [].toArray⟩
noncomputable def v128_3 (T M : Nat → Stmt) (Z : Rowz) (P : Params) : Obj := ⟨.none, none, (.func { name := (Str.ofString "decode"), qualname := (Str.ofString "_Authenticator.decode"), params := (am3), body := (.stmts (fnBody (M 3))), scope := (sm3), globals := 0, closure := [], defaults := .none, kwdefaults := .none, doc := .none, pyModule := .none, annotations := none, code := .none, closureTuple := .none, builtins := 0 }), [].toArray⟩
noncomputable def o129_3 (P : Params) : Obj := ⟨(.type "code"), none, (.fields [(.str (Str.ofString "decode") 414), (.str (Str.ofString "_Authenticator.decode") 415), (.str (Str.ofString "/claim/cut.py") 416), (.int 148 0), (.int 2 0), (.int 0 0), (.int 0 0), (.int 3 0), (.ref 124), (.bool true), (.int 276 0), (.ref 125), .none, (.ref 126), (.ref 127), (.ref 128), (.int 419 0), (.int 148 0), (.str (Str.ofString "/claim/cut.py") 420)].toArray), [].toArray⟩
noncomputable def v130_3 (T M : Nat → Stmt) (Z : Rowz) (P : Params) : Obj := ⟨(.type "function"), none, (.func { name := (Str.ofString "decode"), qualname := (Str.ofString "_Authenticator.decode"), params := (am3), body := (.stmts (fnBody (M 3))), scope := (sm3), globals := 3, closure := [], defaults := .none, kwdefaults := .none, doc := .none, pyModule := (.str (Str.ofString "cpy313.imaplib") 372), annotations := none, code := (.ref 129), closureTuple := .none, builtins := 0 }), [].toArray⟩
noncomputable def o131_3 (P : Params) : Obj := ⟨(.type "tuple"), none, (.seq [(.str (Str.ofString "mech") 422)].toArray 0), [].toArray⟩
noncomputable def o132_3 (P : Params) : Obj := ⟨(.type "dict"), none, (.dict [⟨(PyData.keyHash P (Str.ofString "__module__")), (.str (Str.ofString "__module__") 381), (.str (Str.ofString "cpy313.imaplib") 372)⟩, ⟨(PyData.keyHash P (Str.ofString "__firstlineno__")), (.str (Str.ofString "__firstlineno__") 385), (.int 121 384)⟩, ⟨(PyData.keyHash P (Str.ofString "__init__")), (.str (Str.ofString "__init__") 393), (.ref 109)⟩, ⟨(PyData.keyHash P (Str.ofString "process")), (.str (Str.ofString "process") 402), (.ref 116)⟩, ⟨(PyData.keyHash P (Str.ofString "encode")), (.str (Str.ofString "encode") 413), (.ref 123)⟩, ⟨(PyData.keyHash P (Str.ofString "decode")), (.str (Str.ofString "decode") 421), (.ref 130)⟩, ⟨(PyData.keyHash P (Str.ofString "__static_attributes__")), (.str (Str.ofString "__static_attributes__") 423), (.ref 131)⟩, ⟨(PyData.keyHash P (Str.ofString "__dict__")), (.str (Str.ofString "__dict__") 425), (.ref 134)⟩, ⟨(PyData.keyHash P (Str.ofString "__weakref__")), (.str (Str.ofString "__weakref__") 427), (.ref 135)⟩, ⟨(PyData.keyHash P (Str.ofString "__doc__")), (.str (Str.ofString "__doc__") 428), .none⟩].toArray 4), [].toArray⟩
noncomputable def o133_3 (P : Params) : Obj := ⟨(.type "type"), none, (.cls { name := (Str.ofString "_Authenticator"), bases := [(.type "object")], mro := [(.ref 133), (.type "object")], ns := 132, qualname := (Str.ofString "_Authenticator"), hasDict := true, slotNames := [], subclasses := [], abstract := false, collection := none, hasDel := false }), [none, none, (some (.str (Str.ofString "_Authenticator") 374)), (some (.str (Str.ofString "_Authenticator") 382)), (some (.builtin "object.__new__")), (some (.bool true))].toArray⟩
noncomputable def o134_3 (P : Params) : Obj := ⟨(.type "getset_descriptor"), none, (.fields [(.str (Str.ofString "__dict__") 424), (.ref 133), (.builtin "function.__dict__"), (.builtin "function.__dict__#set")].toArray), [].toArray⟩
noncomputable def o135_3 (P : Params) : Obj := ⟨(.type "getset_descriptor"), none, (.fields [(.str (Str.ofString "__weakref__") 426), (.ref 133), (.builtin "ExceptionGroup.__weakref__"), .none].toArray), [].toArray⟩
noncomputable def o136_3 (P : Params) : Obj := ⟨(.type "super"), none, (.fields [(.ref 133), (.ref 133), (.ref 133)].toArray), [].toArray⟩
noncomputable def o137_3 (P : Params) : Obj := ⟨(.type "builtin_function_or_method"), none, (.fields [(.builtin "object.__init_subclass__"), (.ref 133)].toArray), [].toArray⟩
noncomputable def o138_3 (P : Params) : Obj := ⟨(.type "list"), none, (.seq [(.int 14 436), (.int 4 437), (.int 0 438), (.int 1 439), (.int 1 440), (.int 6 441), (.int 1 442), (.int 16 443), (.int 46 444), (.int 1 445)].toArray 0), [].toArray⟩
noncomputable def o139_3 (P : Params) : Obj := ⟨(.type "dict"), none, (.dict [].toArray 0), [].toArray⟩
noncomputable def o140_3 (P : Params) : Obj := ⟨(.type "tuple"), none, (.seq [.none].toArray 0), [].toArray⟩
noncomputable def o141_3 (P : Params) : Obj := ⟨(.type "tuple"), none, (.seq [(.int 14 0), (.int 4 0), (.int 0 0), (.int 1 0), (.int 1 0), (.int 6 0), (.int 1 0), (.int 16 0), (.int 46 0), (.int 1 0)].toArray 0), [].toArray⟩
noncomputable def o142_3 (P : Params) : Obj := ⟨(.type "re.Pattern"), none, (.fields [(.str (Str.ofString "(?m)^\\.") 434), (.int 40 447), (.int 0 0), .none, .none, (.ref 141), (.int 0 0)].toArray), [].toArray⟩
noncomputable def o143_3 (P : Params) : Obj := ⟨(.type "list"), none, (.seq [(.int 14 452), (.int 9 453), (.int 4 454), (.int 1 455), (.int 2 456), (.int 16 457), (.int 10 458), (.int 16 459), (.int 13 460), (.int 0 461), (.int 7 462), (.int 7 463), (.int 16 464), (.int 13 465), (.int 16 466), (.int 10 467), (.int 15 468), (.int 18 469), (.int 5 470), (.int 16 471), (.int 10 472), (.int 15 473), (.int 13 474), (.int 11 475), (.int 16 476), (.int 13 477), (.int 5 478), (.int 5 479), (.int 0 480), (.int 16 481), (.int 10 482), (.int 1 483), (.int 15 484), (.int 2 485), (.int 0 486), (.int 1 487)].toArray 0), [].toArray⟩
noncomputable def o144_3 (P : Params) : Obj := ⟨(.type "dict"), none, (.dict [].toArray 0), [].toArray⟩
noncomputable def o145_3 (P : Params) : Obj := ⟨(.type "tuple"), none, (.seq [.none].toArray 0), [].toArray⟩
noncomputable def o146_3 (P : Params) : Obj := ⟨(.type "tuple"), none, (.seq [(.int 14 0), (.int 9 0), (.int 4 0), (.int 1 0), (.int 2 0), (.int 16 0), (.int 10 0), (.int 16 0), (.int 13 0), (.int 0 0), (.int 7 0), (.int 7 0), (.int 16 0), (.int 13 0), (.int 16 0), (.int 10 0), (.int 15 0), (.int 18 0), (.int 5 0), (.int 16 0), (.int 10 0), (.int 15 0), (.int 13 0), (.int 11 0), (.int 16 0), (.int 13 0), (.int 5 0), (.int 5 0), (.int 0 0), (.int 16 0), (.int 10 0), (.int 1 0), (.int 15 0), (.int 2 0), (.int 0 0), (.int 1 0)].toArray 0), [].toArray⟩
noncomputable def o147_3 (P : Params) : Obj := ⟨(.type "re.Pattern"), none, (.fields [(.str (Str.ofString "(?:\\r\\n|\\n|\\r(?!\\n))") 450), (.int 32 489), (.int 0 0), .none, .none, (.ref 146), (.int 0 0)].toArray), [].toArray⟩
noncomputable def o148_3 (P : Params) : Obj := ⟨(.type "tuple"), none, (.seq [].toArray 0), [].toArray⟩
noncomputable def o149_3 (P : Params) : Obj := ⟨.none, none, (.fields [].toArray), [].toArray⟩
noncomputable def o150_3 (P : Params) : Obj := ⟨(.type "tuple"), none, (.seq [(.str (Str.ofString "data") 496)].toArray 0), [].toArray⟩
noncomputable def o151_3 (P : Params) : Obj := ⟨(.type "tuple"), none, (.seq [].toArray 0), [].toArray⟩
noncomputable def v152_3 (T M : Nat → Stmt) (Z : Rowz) (P : Params) : Obj := ⟨.none, none, (.func { name := (Str.ofString "quotedata"), qualname := (Str.ofString "quotedata"), params := (ar17), body := (.stmts (fnBody (T 17))), scope := (sc17), globals := 0, closure := [], defaults := .none, kwdefaults := .none, doc := .none, pyModule := .none, annotations := none, code := .none, closureTuple := .none, builtins := 0 }), [].toArray⟩
noncomputable def o153_3 (P : Params) : Obj := ⟨(.type "code"), none, (.fields [(.str (Str.ofString "quotedata") 493), (.str (Str.ofString "quotedata") 494), (.str (Str.ofString "/claim/cut.py") 495), (.int 156 0), (.int 1 0), (.int 0 0), (.int 0 0), (.int 3 0), (.ref 148), (.bool true), (.int 276 0), (.ref 149), .none, (.ref 150), (.ref 151), (.ref 152), (.int 497 0), (.int 156 0), (.str (Str.ofString "/claim/cut.py") 498)].toArray), [].toArray⟩
noncomputable def v154_3 (T M : Nat → Stmt) (Z : Rowz) (P : Params) : Obj := ⟨(.type "function"), none, (.func { name := (Str.ofString "quotedata"), qualname := (Str.ofString "quotedata"), params := (ar17), body := (.stmts (fnBody (T 17))), scope := (sc17), globals := 3, closure := [], defaults := .none, kwdefaults := .none, doc := .none, pyModule := (.str (Str.ofString "cpy313.smtplib") 431), annotations := none, code := (.ref 153), closureTuple := .none, builtins := 0 }), [].toArray⟩
noncomputable def o3_4d4 (P : Params) : List DictEntry := [⟨(PyData.keyHash P (Str.ofString "b1_set")), (.str (Str.ofString "b1_set") 561), (.ref 162)⟩]
noncomputable def o3_4 (P : Params) : Obj := ⟨(.type "dict"), none, (.dict (o3_3d0 P ++ (o3_2d1 P ++ (o3_2d2 P ++ (o3_3d3 P ++ (o3_4d4 P))))).toArray 25), [].toArray⟩
noncomputable def o155_4 (P : Params) : Obj := ⟨(.type "list"), none, (.seq [(.int 173 502), (.int 847 503), (.int 6150 504), (.int 6155 505), (.int 6156 506), (.int 6157 507), (.int 8203 508), (.int 8204 509), (.int 8205 510), (.int 8288 511), (.int 65279 512)].toArray 0), [].toArray⟩
noncomputable def o156_4 (P : Params) : Obj := ⟨(.type "range"), none, (.fields [(.int 65024 513), (.int 65040 514), (.int 1 515)].toArray), [].toArray⟩
noncomputable def o157_4 (P : Params) : Obj := ⟨(.type "list"), none, (.seq [(.int 65024 518), (.int 65025 519), (.int 65026 520), (.int 65027 521), (.int 65028 522), (.int 65029 523), (.int 65030 524), (.int 65031 525), (.int 65032 526), (.int 65033 527), (.int 65034 528), (.int 65035 529), (.int 65036 530), (.int 65037 531), (.int 65038 532), (.int 65039 533)].toArray 18), [].toArray⟩
noncomputable def o158_4 (P : Params) : Obj := ⟨(.type "range_iterator"), none, (.fields [(.int 65040 0), (.int 0 0), (.int 1 0)].toArray), [].toArray⟩
noncomputable def o159_4 (P : Params) : Obj := ⟨(.type "tuple"), none, (.seq [].toArray 0), [].toArray⟩
noncomputable def o160_4 (P : Params) : Obj := ⟨(.type "StopIteration"), none, (.fields [(.ref 159), .none, .none, .none, (.bool false), .none].toArray), [].toArray⟩
noncomputable def o161_4 (P : Params) : Obj := ⟨(.type "list"), none, (.seq [(.int 173 502), (.int 847 503), (.int 6150 504), (.int 6155 505), (.int 6156 506), (.int 6157 507), (.int 8203 508), (.int 8204 509), (.int 8205 510), (.int 8288 511), (.int 65279 512), (.int 65024 518), (.int 65025 519), (.int 65026 520), (.int 65027 521), (.int 65028 522), (.int 65029 523), (.int 65030 524), (.int 65031 525), (.int 65032 526), (.int 65033 527), (.int 65034 528), (.int 65035 529), (.int 65036 530), (.int 65037 531), (.int 65038 532), (.int 65039 533)].toArray 0), [].toArray⟩
noncomputable def o162_4 (P : Params) : Obj := ⟨(.type "set"), none, (.set [(65024, (.int 65024 518)), (65025, (.int 65025 519)), (65026, (.int 65026 520)), (65027, (.int 65027 521)), (65028, (.int 65028 522)), (65029, (.int 65029 523)), (6150, (.int 6150 504)), (65030, (.int 65030 524)), (65031, (.int 65031 525)), (65032, (.int 65032 526)), (65033, (.int 65033 527)), (6155, (.int 6155 505)), (6156, (.int 6156 506)), (6157, (.int 6157 507)), (8203, (.int 8203 508)), (8204, (.int 8204 509)), (8205, (.int 8205 510)), (65034, (.int 65034 528)), (65035, (.int 65035 529)), (65036, (.int 65036 530)), (65037, (.int 65037 531)), (65038, (.int 65038 532)), (65039, (.int 65039 533)), (173, (.int 173 502)), (847, (.int 847 503)), (8288, (.int 8288 511)), (65279, (.int 65279 512))].toArray 29 { mask := 127, place := [0, 1, 2, 3, 4, 5, 6, 7, 8, 9, 10, 11, 12, 13, 14, 15, 16, 17, 18, 19, 20, 21, 22, 45, 79, 96, 127].toArray, dummies := [].toArray, finger := 0, led := (!P.followText "set-order"), moves := 2, plain := true }), [].toArray⟩
noncomputable def o163_4 (P : Params) : Obj := ⟨(.type "list_iterator"), none, (.fields [.none, (.int 27 0)].toArray), [].toArray⟩
noncomputable def o164_4 (P : Params) : Obj := ⟨(.type "tuple"), none, (.seq [].toArray 0), [].toArray⟩
noncomputable def o165_4 (P : Params) : Obj := ⟨(.type "StopIteration"), none, (.fields [(.ref 164), .none, .none, .none, (.bool false), .none].toArray), [].toArray⟩
noncomputable def o3_5d4 (P : Params) : List DictEntry := [⟨(PyData.keyHash P (Str.ofString "b1_set")), (.str (Str.ofString "b1_set") 561), (.ref 162)⟩, ⟨(PyData.keyHash P (Str.ofString "in_table_b1")), (.str (Str.ofString "in_table_b1") 568), (.ref 172)⟩]
noncomputable def o3_5 (P : Params) : Obj := ⟨(.type "dict"), none, (.dict (o3_3d0 P ++ (o3_2d1 P ++ (o3_2d2 P ++ (o3_3d3 P ++ (o3_5d4 P))))).toArray 26), [].toArray⟩
noncomputable def o29_5 (P : Params) : Obj := ⟨.none, none, (.fields [(.int 2 0), (.int 0 0), (.ref 37), (.int 6 0), (.int 0 0), (.ref 44), (.int 8 0), (.int 0 0), (.ref 57), (.int 19 0), (.int 0 0), (.ref 64), (.int 26 0), (.int 0 0), (.ref 71), (.int 32 0), (.int 0 0), (.ref 78), (.int 44 0), (.int 0 0), (.ref 86), (.int 98 0), (.int 0 0), (.ref 94), (.int 121 0), (.int 0 0), (.ref 101), (.int 156 0), (.int 0 0), (.ref 153), (.int 160 0), (.int 0 0), (.ref 171)].toArray), [].toArray⟩
noncomputable def o166_5 (P : Params) : Obj := ⟨(.type "tuple"), none, (.seq [].toArray 0), [].toArray⟩
noncomputable def o167_5 (P : Params) : Obj := ⟨.none, none, (.fields [].toArray), [].toArray⟩
noncomputable def o168_5 (P : Params) : Obj := ⟨(.type "tuple"), none, (.seq [(.str (Str.ofString "code") 565)].toArray 0), [].toArray⟩
noncomputable def o169_5 (P : Params) : Obj := ⟨(.type "tuple"), none, (.seq [].toArray 0), [].toArray⟩
noncomputable def v170_5 (T M : Nat → Stmt) (Z : Rowz) (P : Params) : Obj := ⟨.none, none, (.func { name := (Str.ofString "in_table_b1"), qualname := (Str.ofString "in_table_b1"), params := (ar20), body := (.stmts (fnBody (T 20))), scope := (sc20), globals := 0, closure := [], defaults := .none, kwdefaults := .none, doc := .none, pyModule := .none, annotations := none, code := .none, closureTuple := .none, builtins := 0 }), [].toArray⟩
noncomputable def o171_5 (P : Params) : Obj := ⟨(.type "code"), none, (.fields [(.str (Str.ofString "in_table_b1") 562), (.str (Str.ofString "in_table_b1") 563), (.str (Str.ofString "/claim/cut.py") 564), (.int 160 0), (.int 1 0), (.int 0 0), (.int 0 0), (.int 3 0), (.ref 166), (.bool true), (.int 276 0), (.ref 167), .none, (.ref 168), (.ref 169), (.ref 170), (.int 566 0), (.int 160 0), (.str (Str.ofString "/claim/cut.py") 567)].toArray), [].toArray⟩
noncomputable def v172_5 (T M : Nat → Stmt) (Z : Rowz) (P : Params) : Obj := ⟨(.type "function"), none, (.func { name := (Str.ofString "in_table_b1"), qualname := (Str.ofString "in_table_b1"), params := (ar20), body := (.stmts (fnBody (T 20))), scope := (sc20), globals := 3, closure := [], defaults := .none, kwdefaults := .none, doc := .none, pyModule := (.str (Str.ofString "cpy313.stringprep") 500), annotations := none, code := (.ref 171), closureTuple := .none, builtins := 0 }), [].toArray⟩
noncomputable def o3_6d4 (P : Params) : List DictEntry := [⟨(PyData.keyHash P (Str.ofString "b1_set")), (.str (Str.ofString "b1_set") 561), (.ref 162)⟩, ⟨(PyData.keyHash P (Str.ofString "in_table_b1")), (.str (Str.ofString "in_table_b1") 568), (.ref 172)⟩, ⟨(PyData.keyHash P (Str.ofString "b3_exceptions")), (.str (Str.ofString "b3_exceptions") 2519), (.ref 173)⟩]
noncomputable def o3_6 (P : Params) : Obj := ⟨(.type "dict"), none, (.dict (o3_3d0 P ++ (o3_2d1 P ++ (o3_2d2 P ++ (o3_3d3 P ++ (o3_6d4 P))))).toArray 27), [].toArray⟩
noncomputable def v173_6 (T M : Nat → Stmt) (Z : Rowz) (P : Params) : Obj := dictOf (ents 569 (Z.take 646) ++ entsE 2507 (Z.drop 646)) 650
noncomputable def v174_6 (T M : Nat → Stmt) (Z : Rowz) (P : Params) : Obj := dictOf (ents 620 ((Z.drop 17).take 17)) 17
noncomputable def v175_6 (T M : Nat → Stmt) (Z : Rowz) (P : Params) : Obj := dictOf (ents 671 ((Z.drop 34).take 17)) 17
noncomputable def v176_6 (T M : Nat → Stmt) (Z : Rowz) (P : Params) : Obj := dictOf (ents 722 ((Z.drop 51).take 17)) 17
noncomputable def v177_6 (T M : Nat → Stmt) (Z : Rowz) (P : Params) : Obj := dictOf (ents 773 ((Z.drop 68).take 17)) 17
noncomputable def v178_6 (T M : Nat → Stmt) (Z : Rowz) (P : Params) : Obj := dictOf (ents 824 ((Z.drop 85).take 17)) 17
noncomputable def v179_6 (T M : Nat → Stmt) (Z : Rowz) (P : Params) : Obj := dictOf (ents 875 ((Z.drop 102).take 17)) 17
noncomputable def v180_6 (T M : Nat → Stmt) (Z : Rowz) (P : Params) : Obj := dictOf (ents 926 ((Z.drop 119).take 17)) 17
noncomputable def v181_6 (T M : Nat → Stmt) (Z : Rowz) (P : Params) : Obj := dictOf (ents 977 ((Z.drop 136).take 17)) 17
noncomputable def v182_6 (T M : Nat → Stmt) (Z : Rowz) (P : Params) : Obj := dictOf (ents 1028 ((Z.drop 153).take 17)) 17
noncomputable def v183_6 (T M : Nat → Stmt) (Z : Rowz) (P : Params) : Obj := dictOf (ents 1079 ((Z.drop 170).take 17)) 17
noncomputable def v184_6 (T M : Nat → Stmt) (Z : Rowz) (P : Params) : Obj := dictOf (ents 1130 ((Z.drop 187).take 17)) 17
noncomputable def v185_6 (T M : Nat → Stmt) (Z : Rowz) (P : Params) : Obj := dictOf (ents 1181 ((Z.drop 204).take 17)) 17
noncomputable def v186_6 (T M : Nat → Stmt) (Z : Rowz) (P : Params) : Obj := dictOf (ents 1232 ((Z.drop 221).take 17)) 17
noncomputable def v187_6 (T M : Nat → Stmt) (Z : Rowz) (P : Params) : Obj := dictOf (ents 1283 ((Z.drop 238).take 17)) 17
noncomputable def v188_6 (T M : Nat → Stmt) (Z : Rowz) (P : Params) : Obj := dictOf (ents 1334 ((Z.drop 255).take 17)) 17
noncomputable def v189_6 (T M : Nat → Stmt) (Z : Rowz) (P : Params) : Obj := dictOf (ents 1385 ((Z.drop 272).take 17)) 17
noncomputable def v190_6 (T M : Nat → Stmt) (Z : Rowz) (P : Params) : Obj := dictOf (ents 1436 ((Z.drop 289).take 17)) 17
noncomputable def v191_6 (T M : Nat → Stmt) (Z : Rowz) (P : Params) : Obj := dictOf (ents 1487 ((Z.drop 306).take 17)) 17
noncomputable def v192_6 (T M : Nat → Stmt) (Z : Rowz) (P : Params) : Obj := dictOf (ents 1538 ((Z.drop 323).take 17)) 17
noncomputable def v193_6 (T M : Nat → Stmt) (Z : Rowz) (P : Params) : Obj := dictOf (ents 1589 ((Z.drop 340).take 17)) 17
noncomputable def v194_6 (T M : Nat → Stmt) (Z : Rowz) (P : Params) : Obj := dictOf (ents 1640 ((Z.drop 357).take 17)) 17
noncomputable def v195_6 (T M : Nat → Stmt) (Z : Rowz) (P : Params) : Obj := dictOf (ents 1691 ((Z.drop 374).take 17)) 17
noncomputable def v196_6 (T M : Nat → Stmt) (Z : Rowz) (P : Params) : Obj := dictOf (ents 1742 ((Z.drop 391).take 17)) 17
noncomputable def v197_6 (T M : Nat → Stmt) (Z : Rowz) (P : Params) : Obj := dictOf (ents 1793 ((Z.drop 408).take 17)) 17
noncomputable def v198_6 (T M : Nat → Stmt) (Z : Rowz) (P : Params) : Obj := dictOf (ents 1844 ((Z.drop 425).take 17)) 17
noncomputable def v199_6 (T M : Nat → Stmt) (Z : Rowz) (P : Params) : Obj := dictOf (ents 1895 ((Z.drop 442).take 17)) 17
noncomputable def v200_6 (T M : Nat → Stmt) (Z : Rowz) (P : Params) : Obj := dictOf (ents 1946 ((Z.drop 459).take 17)) 17
noncomputable def v201_6 (T M : Nat → Stmt) (Z : Rowz) (P : Params) : Obj := dictOf (ents 1997 ((Z.drop 476).take 17)) 17
noncomputable def v202_6 (T M : Nat → Stmt) (Z : Rowz) (P : Params) : Obj := dictOf (ents 2048 ((Z.drop 493).take 17)) 17
noncomputable def v203_6 (T M : Nat → Stmt) (Z : Rowz) (P : Params) : Obj := dictOf (ents 2099 ((Z.drop 510).take 17)) 17
noncomputable def v204_6 (T M : Nat → Stmt) (Z : Rowz) (P : Params) : Obj := dictOf (ents 2150 ((Z.drop 527).take 17)) 17
noncomputable def v205_6 (T M : Nat → Stmt) (Z : Rowz) (P : Params) : Obj := dictOf (ents 2201 ((Z.drop 544).take 17)) 17
noncomputable def v206_6 (T M : Nat → Stmt) (Z : Rowz) (P : Params) : Obj := dictOf (ents 2252 ((Z.drop 561).take 17)) 17
noncomputable def v207_6 (T M : Nat → Stmt) (Z : Rowz) (P : Params) : Obj := dictOf (ents 2303 ((Z.drop 578).take 17)) 17
noncomputable def v208_6 (T M : Nat → Stmt) (Z : Rowz) (P : Params) : Obj := dictOf (ents 2354 ((Z.drop 595).take 17)) 17
noncomputable def v209_6 (T M : Nat → Stmt) (Z : Rowz) (P : Params) : Obj := dictOf (ents 2405 ((Z.drop 612).take 17)) 17
noncomputable def v210_6 (T M : Nat → Stmt) (Z : Rowz) (P : Params) : Obj := dictOf (ents 2456 ((Z.drop 629).take 17)) 17
noncomputable def v211_6 (T M : Nat → Stmt) (Z : Rowz) (P : Params) : Obj := dictOf (entsE 2507 (Z.drop 646)) 4
noncomputable def o3_7d0 (P : Params) : List DictEntry := [⟨(PyData.keyHash P (Str.ofString "__name__")), (.str (Str.ofString "__name__") 165), (.str (Str.ofString "law_ta0038_01") 2528)⟩, ⟨(PyData.keyHash P (Str.ofString "__doc__")), (.str (Str.ofString "__doc__") 166), .none⟩, ⟨(PyData.keyHash P (Str.ofString "__package__")), (.str (Str.ofString "__package__") 167), .none⟩, ⟨(PyData.keyHash P (Str.ofString "__loader__")), (.str (Str.ofString "__loader__") 168), (.builtin "__main__.__loader__#opaque")⟩, ⟨(PyData.keyHash P (Str.ofString "__spec__")), (.str (Str.ofString "__spec__") 169), .none⟩, ⟨(PyData.keyHash P (Str.ofString "__annotations__")), (.str (Str.ofString "__annotations__") 170), (.ref 6)⟩]
noncomputable def o3_7d4 (P : Params) : List DictEntry := [⟨(PyData.keyHash P (Str.ofString "b1_set")), (.str (Str.ofString "b1_set") 561), (.ref 162)⟩, ⟨(PyData.keyHash P (Str.ofString "in_table_b1")), (.str (Str.ofString "in_table_b1") 568), (.ref 172)⟩, ⟨(PyData.keyHash P (Str.ofString "b3_exceptions")), (.str (Str.ofString "b3_exceptions") 2519), (.ref 173)⟩, ⟨(PyData.keyHash P (Str.ofString "map_table_b3")), (.str (Str.ofString "map_table_b3") 2527), (.ref 218)⟩, ⟨(PyData.keyHash P (Str.ofString "_law_piece")), (.str (Str.ofString "_law_piece") 2541), (.ref 225)⟩, ⟨(PyData.keyHash P (Str.ofString "_law_rows")), (.str (Str.ofString "_law_rows") 2551), (.ref 232)⟩]
noncomputable def o3_7d5 (P : Params) : List DictEntry := [⟨(PyData.keyHash P (Str.ofString "_law_in_fours")), (.str (Str.ofString "_law_in_fours") 2565), (.ref 239)⟩, ⟨(PyData.keyHash P (Str.ofString "_law_prepares")), (.str (Str.ofString "_law_prepares") 2574), (.ref 246)⟩, ⟨(PyData.keyHash P (Str.ofString "_law_sends")), (.str (Str.ofString "_law_sends") 2581), (.ref 253)⟩, ⟨(PyData.keyHash P (Str.ofString "law")), (.str (Str.ofString "law") 2587), (.ref 258)⟩]
noncomputable def o3_7 (P : Params) : Obj := ⟨(.type "dict"), none, (.dict (o3_7d0 P ++ (o3_2d1 P ++ (o3_2d2 P ++ (o3_3d3 P ++ (o3_7d4 P ++ (o3_7d5 P)))))).toArray 34), [].toArray⟩
noncomputable def o29_7 (P : Params) : Obj := ⟨.none, none, (.fields [(.int 2 0), (.int 0 0), (.ref 37), (.int 6 0), (.int 0 0), (.ref 44), (.int 8 0), (.int 0 0), (.ref 57), (.int 19 0), (.int 0 0), (.ref 64), (.int 26 0), (.int 0 0), (.ref 71), (.int 32 0), (.int 0 0), (.ref 78), (.int 44 0), (.int 0 0), (.ref 86), (.int 98 0), (.int 0 0), (.ref 94), (.int 121 0), (.int 0 0), (.ref 101), (.int 156 0), (.int 0 0), (.ref 153), (.int 160 0), (.int 0 0), (.ref 171), (.int 163 0), (.int 0 0), (.ref 217), (.int 169 0), (.int 0 0), (.ref 224), (.int 189 0), (.int 0 0), (.ref 231), (.int 200 0), (.int 0 0), (.ref 238), (.int 212 0), (.int 0 0), (.ref 245), (.int 218 0), (.int 0 0), (.ref 252), (.int 220 0), (.int 0 0), (.ref 257)].toArray), [].toArray⟩
noncomputable def o212_7 (P : Params) : Obj := ⟨(.type "tuple"), none, (.seq [].toArray 0), [].toArray⟩
noncomputable def o213_7 (P : Params) : Obj := ⟨.none, none, (.fields [].toArray), [].toArray⟩
noncomputable def o214_7 (P : Params) : Obj := ⟨(.type "tuple"), none, (.seq [(.str (Str.ofString "code") 2523), (.str (Str.ofString "r") 2524)].toArray 0), [].toArray⟩
noncomputable def o215_7 (P : Params) : Obj := ⟨(.type "tuple"), none, (.seq [].toArray 0), [].toArray⟩
noncomputable def v216_7 (T M : Nat → Stmt) (Z : Rowz) (P : Params) : Obj := ⟨.none, none, (.func { name := (Str.ofString "map_table_b3"), qualname := (Str.ofString "map_table_b3"), params := (ar22), body := (.stmts (fnBody (T 22))), scope := (sc22), globals := 0, closure := [], defaults := .none, kwdefaults := .none, doc := .none, pyModule := .none, annotations := none, code := .none, closureTuple := .none, builtins := 0 }), [].toArray⟩
noncomputable def o217_7 (P : Params) : Obj := ⟨(.type "code"), none, (.fields [(.str (Str.ofString "map_table_b3") 2520), (.str (Str.ofString "map_table_b3") 2521), (.str (Str.ofString "/claim/cut.py") 2522), (.int 163 0), (.int 1 0), (.int 0 0), (.int 0 0), (.int 3 0), (.ref 212), (.bool true), (.int 276 0), (.ref 213), .none, (.ref 214), (.ref 215), (.ref 216), (.int 2525 0), (.int 163 0), (.str (Str.ofString "/claim/cut.py") 2526)].toArray), [].toArray⟩
noncomputable def v218_7 (T M : Nat → Stmt) (Z : Rowz) (P : Params) : Obj := ⟨(.type "function"), none, (.func { name := (Str.ofString "map_table_b3"), qualname := (Str.ofString "map_table_b3"), params := (ar22), body := (.stmts (fnBody (T 22))), scope := (sc22), globals := 3, closure := [], defaults := .none, kwdefaults := .none, doc := .none, pyModule := (.str (Str.ofString "cpy313.stringprep") 500), annotations := none, code := (.ref 217), closureTuple := .none, builtins := 0 }), [].toArray⟩
noncomputable def o219_7 (P : Params) : Obj := ⟨(.type "tuple"), none, (.seq [].toArray 0), [].toArray⟩
noncomputable def o220_7 (P : Params) : Obj := ⟨.none, none, (.fields [].toArray), [].toArray⟩
noncomputable def o221_7 (P : Params) : Obj := ⟨(.type "tuple"), none, (.seq [(.str (Str.ofString "cell") 2533), (.str (Str.ofString "kind") 2534), (.str (Str.ofString "more") 2535), (.str (Str.ofString "pairs") 2536), (.str (Str.ofString "points") 2537), (.str (Str.ofString "plain") 2538)].toArray 0), [].toArray⟩
noncomputable def o222_7 (P : Params) : Obj := ⟨(.type "tuple"), none, (.seq [].toArray 0), [].toArray⟩
noncomputable def v223_7 (T M : Nat → Stmt) (Z : Rowz) (P : Params) : Obj := ⟨.none, none, (.func { name := (Str.ofString "_law_piece"), qualname := (Str.ofString "_law_piece"), params := (ar24), body := (.stmts (fnBody (T 24))), scope := (sc24), globals := 0, closure := [], defaults := .none, kwdefaults := .none, doc := .none, pyModule := .none, annotations := none, code := .none, closureTuple := .none, builtins := 0 }), [].toArray⟩
noncomputable def o224_7 (P : Params) : Obj := ⟨(.type "code"), none, (.fields [(.str (Str.ofString "_law_piece") 2530), (.str (Str.ofString "_law_piece") 2531), (.str (Str.ofString "/claim/cut.py") 2532), (.int 169 0), (.int 1 0), (.int 0 0), (.int 0 0), (.int 3 0), (.ref 219), (.bool true), (.int 276 0), (.ref 220), .none, (.ref 221), (.ref 222), (.ref 223), (.int 2539 0), (.int 169 0), (.str (Str.ofString "/claim/cut.py") 2540)].toArray), [].toArray⟩
noncomputable def v225_7 (T M : Nat → Stmt) (Z : Rowz) (P : Params) : Obj := ⟨(.type "function"), none, (.func { name := (Str.ofString "_law_piece"), qualname := (Str.ofString "_law_piece"), params := (ar24), body := (.stmts (fnBody (T 24))), scope := (sc24), globals := 3, closure := [], defaults := .none, kwdefaults := .none, doc := .none, pyModule := (.str (Str.ofString "law_ta0038_01") 2528), annotations := none, code := (.ref 224), closureTuple := .none, builtins := 0 }), [].toArray⟩
noncomputable def o226_7 (P : Params) : Obj := ⟨(.type "tuple"), none, (.seq [].toArray 0), [].toArray⟩
noncomputable def o227_7 (P : Params) : Obj := ⟨.none, none, (.fields [].toArray), [].toArray⟩
noncomputable def o228_7 (P : Params) : Obj := ⟨(.type "tuple"), none, (.seq [(.str (Str.ofString "text") 2545), (.str (Str.ofString "rows") 2546), (.str (Str.ofString "last") 2547), (.str (Str.ofString "sign") 2548)].toArray 0), [].toArray⟩
noncomputable def o229_7 (P : Params) : Obj := ⟨(.type "tuple"), none, (.seq [].toArray 0), [].toArray⟩
noncomputable def v230_7 (T M : Nat → Stmt) (Z : Rowz) (P : Params) : Obj := ⟨.none, none, (.func { name := (Str.ofString "_law_rows"), qualname := (Str.ofString "_law_rows"), params := (ar25), body := (.stmts (fnBody (T 25))), scope := (sc25), globals := 0, closure := [], defaults := .none, kwdefaults := .none, doc := .none, pyModule := .none, annotations := none, code := .none, closureTuple := .none, builtins := 0 }), [].toArray⟩
noncomputable def o231_7 (P : Params) : Obj := ⟨(.type "code"), none, (.fields [(.str (Str.ofString "_law_rows") 2542), (.str (Str.ofString "_law_rows") 2543), (.str (Str.ofString "/claim/cut.py") 2544), (.int 189 0), (.int 1 0), (.int 0 0), (.int 0 0), (.int 3 0), (.ref 226), (.bool true), (.int 276 0), (.ref 227), .none, (.ref 228), (.ref 229), (.ref 230), (.int 2549 0), (.int 189 0), (.str (Str.ofString "/claim/cut.py") 2550)].toArray), [].toArray⟩
noncomputable def v232_7 (T M : Nat → Stmt) (Z : Rowz) (P : Params) : Obj := ⟨(.type "function"), none, (.func { name := (Str.ofString "_law_rows"), qualname := (Str.ofString "_law_rows"), params := (ar25), body := (.stmts (fnBody (T 25))), scope := (sc25), globals := 3, closure := [], defaults := .none, kwdefaults := .none, doc := .none, pyModule := (.str (Str.ofString "law_ta0038_01") 2528), annotations := none, code := (.ref 231), closureTuple := .none, builtins := 0 }), [].toArray⟩
noncomputable def o233_7 (P : Params) : Obj := ⟨(.type "tuple"), none, (.seq [].toArray 0), [].toArray⟩
noncomputable def o234_7 (P : Params) : Obj := ⟨.none, none, (.fields [].toArray), [].toArray⟩
noncomputable def o235_7 (P : Params) : Obj := ⟨(.type "tuple"), none, (.seq [(.str (Str.ofString "octets") 2555), (.str (Str.ofString "signs") 2556), (.str (Str.ofString "written") 2557), (.str (Str.ofString "first") 2558), (.str (Str.ofString "three") 2559), (.str (Str.ofString "number") 2560), (.str (Str.ofString "octet") 2561), (.str (Str.ofString "four") 2562)].toArray 0), [].toArray⟩
noncomputable def o236_7 (P : Params) : Obj := ⟨(.type "tuple"), none, (.seq [].toArray 0), [].toArray⟩
noncomputable def v237_7 (T M : Nat → Stmt) (Z : Rowz) (P : Params) : Obj := ⟨.none, none, (.func { name := (Str.ofString "_law_in_fours"), qualname := (Str.ofString "_law_in_fours"), params := (ar26), body := (.stmts (fnBody (T 26))), scope := (sc26), globals := 0, closure := [], defaults := .none, kwdefaults := .none, doc := .none, pyModule := .none, annotations := none, code := .none, closureTuple := .none, builtins := 0 }), [].toArray⟩
noncomputable def o238_7 (P : Params) : Obj := ⟨(.type "code"), none, (.fields [(.str (Str.ofString "_law_in_fours") 2552), (.str (Str.ofString "_law_in_fours") 2553), (.str (Str.ofString "/claim/cut.py") 2554), (.int 200 0), (.int 1 0), (.int 0 0), (.int 0 0), (.int 3 0), (.ref 233), (.bool true), (.int 276 0), (.ref 234), .none, (.ref 235), (.ref 236), (.ref 237), (.int 2563 0), (.int 200 0), (.str (Str.ofString "/claim/cut.py") 2564)].toArray), [].toArray⟩
noncomputable def v239_7 (T M : Nat → Stmt) (Z : Rowz) (P : Params) : Obj := ⟨(.type "function"), none, (.func { name := (Str.ofString "_law_in_fours"), qualname := (Str.ofString "_law_in_fours"), params := (ar26), body := (.stmts (fnBody (T 26))), scope := (sc26), globals := 3, closure := [], defaults := .none, kwdefaults := .none, doc := .none, pyModule := (.str (Str.ofString "law_ta0038_01") 2528), annotations := none, code := (.ref 238), closureTuple := .none, builtins := 0 }), [].toArray⟩
noncomputable def o240_7 (P : Params) : Obj := ⟨(.type "tuple"), none, (.seq [].toArray 0), [].toArray⟩
noncomputable def o241_7 (P : Params) : Obj := ⟨.none, none, (.fields [].toArray), [].toArray⟩
noncomputable def o242_7 (P : Params) : Obj := ⟨(.type "tuple"), none, (.seq [(.str (Str.ofString "octets") 2569), (.str (Str.ofString "kept") 2570), (.str (Str.ofString "sign") 2571)].toArray 0), [].toArray⟩
noncomputable def o243_7 (P : Params) : Obj := ⟨(.type "tuple"), none, (.seq [].toArray 0), [].toArray⟩
noncomputable def v244_7 (T M : Nat → Stmt) (Z : Rowz) (P : Params) : Obj := ⟨.none, none, (.func { name := (Str.ofString "_law_prepares"), qualname := (Str.ofString "_law_prepares"), params := (ar27), body := (.stmts (fnBody (T 27))), scope := (sc27), globals := 0, closure := [], defaults := .none, kwdefaults := .none, doc := .none, pyModule := .none, annotations := none, code := .none, closureTuple := .none, builtins := 0 }), [].toArray⟩
noncomputable def o245_7 (P : Params) : Obj := ⟨(.type "code"), none, (.fields [(.str (Str.ofString "_law_prepares") 2566), (.str (Str.ofString "_law_prepares") 2567), (.str (Str.ofString "/claim/cut.py") 2568), (.int 212 0), (.int 1 0), (.int 0 0), (.int 0 0), (.int 3 0), (.ref 240), (.bool true), (.int 276 0), (.ref 241), .none, (.ref 242), (.ref 243), (.ref 244), (.int 2572 0), (.int 212 0), (.str (Str.ofString "/claim/cut.py") 2573)].toArray), [].toArray⟩
noncomputable def v246_7 (T M : Nat → Stmt) (Z : Rowz) (P : Params) : Obj := ⟨(.type "function"), none, (.func { name := (Str.ofString "_law_prepares"), qualname := (Str.ofString "_law_prepares"), params := (ar27), body := (.stmts (fnBody (T 27))), scope := (sc27), globals := 3, closure := [], defaults := .none, kwdefaults := .none, doc := .none, pyModule := (.str (Str.ofString "law_ta0038_01") 2528), annotations := none, code := (.ref 245), closureTuple := .none, builtins := 0 }), [].toArray⟩
noncomputable def o247_7 (P : Params) : Obj := ⟨(.type "tuple"), none, (.seq [].toArray 0), [].toArray⟩
noncomputable def o248_7 (P : Params) : Obj := ⟨.none, none, (.fields [].toArray), [].toArray⟩
noncomputable def o249_7 (P : Params) : Obj := ⟨(.type "tuple"), none, (.seq [(.str (Str.ofString "octets") 2578)].toArray 0), [].toArray⟩
noncomputable def o250_7 (P : Params) : Obj := ⟨(.type "tuple"), none, (.seq [].toArray 0), [].toArray⟩
noncomputable def v251_7 (T M : Nat → Stmt) (Z : Rowz) (P : Params) : Obj := ⟨.none, none, (.func { name := (Str.ofString "_law_sends"), qualname := (Str.ofString "_law_sends"), params := (ar28), body := (.stmts (fnBody (T 28))), scope := (sc28), globals := 0, closure := [], defaults := .none, kwdefaults := .none, doc := .none, pyModule := .none, annotations := none, code := .none, closureTuple := .none, builtins := 0 }), [].toArray⟩
noncomputable def o252_7 (P : Params) : Obj := ⟨(.type "code"), none, (.fields [(.str (Str.ofString "_law_sends") 2575), (.str (Str.ofString "_law_sends") 2576), (.str (Str.ofString "/claim/cut.py") 2577), (.int 218 0), (.int 1 0), (.int 0 0), (.int 0 0), (.int 3 0), (.ref 247), (.bool true), (.int 276 0), (.ref 248), .none, (.ref 249), (.ref 250), (.ref 251), (.int 2579 0), (.int 218 0), (.str (Str.ofString "/claim/cut.py") 2580)].toArray), [].toArray⟩
noncomputable def v253_7 (T M : Nat → Stmt) (Z : Rowz) (P : Params) : Obj := ⟨(.type "function"), none, (.func { name := (Str.ofString "_law_sends"), qualname := (Str.ofString "_law_sends"), params := (ar28), body := (.stmts (fnBody (T 28))), scope := (sc28), globals := 3, closure := [], defaults := .none, kwdefaults := .none, doc := .none, pyModule := (.str (Str.ofString "law_ta0038_01") 2528), annotations := none, code := (.ref 252), closureTuple := .none, builtins := 0 }), [].toArray⟩
noncomputable def o254_7 (P : Params) : Obj := ⟨(.type "tuple"), none, (.seq [].toArray 0), [].toArray⟩
noncomputable def o255_7 (P : Params) : Obj := ⟨.none, none, (.fields [].toArray), [].toArray⟩
noncomputable def v256_7 (T M : Nat → Stmt) (Z : Rowz) (P : Params) : Obj := ⟨.none, none, (.func { name := (Str.ofString "law"), qualname := (Str.ofString "law"), params := (ar29), body := (.stmts (fnBody (T 29))), scope := (sc29), globals := 0, closure := [], defaults := .none, kwdefaults := .none, doc := .none, pyModule := .none, annotations := none, code := .none, closureTuple := .none, builtins := 0 }), [].toArray⟩
noncomputable def o257_7 (P : Params) : Obj := ⟨(.type "code"), none, (.fields [(.str (Str.ofString "law") 2582), (.str (Str.ofString "law") 2583), (.str (Str.ofString "/claim/cut.py") 2584), (.int 220 0), (.int 1 0), (.int 0 0), (.int 0 0), (.int 3 0), (.ref 254), (.bool true), (.int 276 0), (.ref 255), .none, .none, .none, (.ref 256), (.int 2585 0), (.int 220 0), (.str (Str.ofString "/claim/cut.py") 2586)].toArray), [].toArray⟩
noncomputable def v258_7 (T M : Nat → Stmt) (Z : Rowz) (P : Params) : Obj := ⟨(.type "function"), none, (.func { name := (Str.ofString "law"), qualname := (Str.ofString "law"), params := (ar29), body := (.stmts (fnBody (T 29))), scope := (sc29), globals := 3, closure := [], defaults := .none, kwdefaults := .none, doc := .none, pyModule := (.str (Str.ofString "law_ta0038_01") 2528), annotations := none, code := (.ref 257), closureTuple := .none, builtins := 0 }), [].toArray⟩
noncomputable def o11_ed0 (P : Params) : List DictEntry := [⟨(PyData.keyHash P (Str.ofString "__name__")), (.str (Str.ofString "__name__") 247), (.str (Str.ofString "_sre") 246)⟩, ⟨(PyData.keyHash P (Str.ofString "__doc__")), (.str (Str.ofString "__doc__") 248), .none⟩, ⟨(PyData.keyHash P (Str.ofString "__package__")), (.str (Str.ofString "__package__") 250), (.str (Str.ofString "") 249)⟩, ⟨(PyData.keyHash P (Str.ofString "__loader__")), (.str (Str.ofString "__loader__") 251), (.ref 14)⟩, ⟨(PyData.keyHash P (Str.ofString "__spec__")), (.str (Str.ofString "__spec__") 252), (.ref 26)⟩, ⟨(PyData.keyHash P (Str.ofString "compile")), (.str (Str.ofString "compile") 253), (.builtin "_sre.compile")⟩]
noncomputable def o11_ed1 (P : Params) : List DictEntry := [⟨(PyData.keyHash P (Str.ofString "template")), (.str (Str.ofString "template") 254), (.builtin "_sre.template")⟩, ⟨(PyData.keyHash P (Str.ofString "getcodesize")), (.str (Str.ofString "getcodesize") 255), (.builtin "_sre.getcodesize")⟩, ⟨(PyData.keyHash P (Str.ofString "ascii_iscased")), (.str (Str.ofString "ascii_iscased") 256), (.builtin "_sre.ascii_iscased")⟩, ⟨(PyData.keyHash P (Str.ofString "unicode_iscased")), (.str (Str.ofString "unicode_iscased") 257), (.builtin "_sre.unicode_iscased")⟩, ⟨(PyData.keyHash P (Str.ofString "ascii_tolower")), (.str (Str.ofString "ascii_tolower") 258), (.builtin "_sre.ascii_tolower")⟩, ⟨(PyData.keyHash P (Str.ofString "unicode_tolower")), (.str (Str.ofString "unicode_tolower") 259), (.builtin "_sre.unicode_tolower")⟩]
noncomputable def o11_e (P : Params) : Obj := ⟨(.type "dict"), none, (.dict (o11_ed0 P ++ (o11_ed1 P ++ (o11_0d2 P))).toArray 17), [].toArray⟩
noncomputable def ts1 (P : Params) : BT := (.node (o1_0 P) (.node (o3_0 P) (.node (o7_0 P) (.node (o15_0 P) .nil .nil) (.node (o23_0 P) .nil .nil)) (.node (o11_0 P) (.node (o19_0 P) .nil .nil) (.node (o27_0 P) .nil .nil))) (.node (o5_0 P) (.node (o9_0 P) (.node (o17_0 P) .nil .nil) (.node (o25_0 P) .nil .nil)) (.node (o13_0 P) (.node (o21_0 P) .nil .nil) .nil)))
noncomputable def ts2 (P : Params) : BT := (.node (o2_0 P) (.node (o4_0 P) (.node (o8_0 P) (.node (o16_0 P) .nil .nil) (.node (o24_0 P) .nil .nil)) (.node (o12_0 P) (.node (o20_0 P) .nil .nil) .nil)) (.node (o6_0 P) (.node (o10_0 P) (.node (o18_0 P) .nil .nil) (.node (o26_0 P) .nil .nil)) (.node (o14_0 P) (.node (o22_0 P) .nil .nil) .nil)))
noncomputable def tr0 (P : Params) : BT := (.node (o0_0 P) (ts1 P) (ts2 P))
noncomputable def ts3 (P : Params) : BT := (.node (o1_0 P) (.node (o3_0 P) (.node (o7_0 P) (.node (o15_0 P) (.node (o31_1 P) .nil .nil) .nil) (.node (o23_0 P) .nil .nil)) (.node (o11_0 P) (.node (o19_0 P) .nil .nil) (.node (o27_0 P) .nil .nil))) (.node (o5_0 P) (.node (o9_0 P) (.node (o17_0 P) .nil .nil) (.node (o25_0 P) .nil .nil)) (.node (o13_0 P) (.node (o21_0 P) .nil .nil) (.node (o29_1 P) .nil .nil))))
noncomputable def ts4 (P : Params) : BT := (.node (o2_0 P) (.node (o4_0 P) (.node (o8_0 P) (.node (o16_0 P) .nil .nil) (.node (o24_0 P) .nil .nil)) (.node (o12_0 P) (.node (o20_0 P) .nil .nil) (.node (o28_1 P) .nil .nil))) (.node (o6_0 P) (.node (o10_0 P) (.node (o18_0 P) .nil .nil) (.node (o26_0 P) .nil .nil)) (.node (o14_0 P) (.node (o22_0 P) .nil .nil) (.node (o30_1 P) .nil .nil))))
noncomputable def tr1 (P : Params) : BT := (.node (o0_0 P) (ts3 P) (ts4 P))
noncomputable def ts5 (T M : Nat → Stmt) (Z : Rowz) (P : Params) : BT := (.node (o7_0 P) (.node (o15_0 P) (.node (o31_1 P) (.node (v63_2 T M Z P) .nil .nil) (.node (v95_2 T M Z P) .nil .nil)) (.node (o47_2 P) (.node (v79_2 T M Z P) .nil .nil) .nil)) (.node (o23_0 P) (.node (o39_2 P) (.node (o71_2 P) .nil .nil) .nil) (.node (o55_2 P) (.node (v87_2 T M Z P) .nil .nil) .nil)))
noncomputable def ts6 (P : Params) : BT := (.node (o11_0 P) (.node (o19_0 P) (.node (o35_2 P) (.node (o67_2 P) .nil .nil) .nil) (.node (o51_2 P) (.node (o83_2 P) .nil .nil) .nil)) (.node (o27_0 P) (.node (o43_2 P) (.node (o75_2 P) .nil .nil) .nil) (.node (o59_2 P) (.node (o91_2 P) .nil .nil) .nil)))
noncomputable def ts7 (T M : Nat → Stmt) (Z : Rowz) (P : Params) : BT := (.node (o3_2 P) (ts5 T M Z P) (ts6 P))
noncomputable def ts8 (T M : Nat → Stmt) (Z : Rowz) (P : Params) : BT := (.node (o9_0 P) (.node (o17_0 P) (.node (o33_2 P) (.node (v65_2 T M Z P) .nil .nil) .nil) (.node (o49_2 P) (.node (o81_2 P) .nil .nil) .nil)) (.node (o25_0 P) (.node (o41_2 P) (.node (o73_2 P) .nil .nil) .nil) (.node (o57_2 P) (.node (o89_2 P) .nil .nil) .nil)))
noncomputable def ts9 (T M : Nat → Stmt) (Z : Rowz) (P : Params) : BT := (.node (o13_0 P) (.node (o21_0 P) (.node (o37_2 P) (.node (o69_2 P) .nil .nil) .nil) (.node (o53_2 P) (.node (v85_2 T M Z P) .nil .nil) .nil)) (.node (o29_2 P) (.node (o45_2 P) (.node (v77_2 T M Z P) .nil .nil) .nil) (.node (o61_2 P) (.node (v93_2 T M Z P) .nil .nil) .nil)))
noncomputable def ts10 (T M : Nat → Stmt) (Z : Rowz) (P : Params) : BT := (.node (o5_0 P) (ts8 T M Z P) (ts9 T M Z P))
noncomputable def ts11 (T M : Nat → Stmt) (Z : Rowz) (P : Params) : BT := (.node (o1_0 P) (ts7 T M Z P) (ts10 T M Z P))
noncomputable def ts12 (T M : Nat → Stmt) (Z : Rowz) (P : Params) : BT := (.node (o8_0 P) (.node (o16_0 P) (.node (o32_2 P) (.node (o64_2 P) .nil .nil) .nil) (.node (o48_2 P) (.node (o80_2 P) .nil .nil) .nil)) (.node (o24_0 P) (.node (o40_2 P) (.node (v72_2 T M Z P) .nil .nil) .nil) (.node (v56_2 T M Z P) (.node (o88_2 P) .nil .nil) .nil)))
noncomputable def ts13 (T M : Nat → Stmt) (Z : Rowz) (P : Params) : BT := (.node (o12_0 P) (.node (o20_0 P) (.node (v36_2 T M Z P) (.node (o68_2 P) .nil .nil) .nil) (.node (o52_2 P) (.node (o84_2 P) .nil .nil) .nil)) (.node (o28_1 P) (.node (o44_2 P) (.node (o76_2 P) .nil .nil) .nil) (.node (o60_2 P) (.node (o92_2 P) .nil .nil) .nil)))
noncomputable def ts14 (T M : Nat → Stmt) (Z : Rowz) (P : Params) : BT := (.node (o4_0 P) (ts12 T M Z P) (ts13 T M Z P))
noncomputable def ts15 (T M : Nat → Stmt) (Z : Rowz) (P : Params) : BT := (.node (o10_0 P) (.node (o18_0 P) (.node (o34_2 P) (.node (o66_2 P) .nil .nil) .nil) (.node (o50_2 P) (.node (o82_2 P) .nil .nil) .nil)) (.node (o26_0 P) (.node (o42_2 P) (.node (o74_2 P) .nil .nil) .nil) (.node (v58_2 T M Z P) (.node (o90_2 P) .nil .nil) .nil)))
noncomputable def ts16 (T M : Nat → Stmt) (Z : Rowz) (P : Params) : BT := (.node (o14_0 P) (.node (o22_0 P) (.node (v38_2 T M Z P) (.node (v70_2 T M Z P) .nil .nil) .nil) (.node (o54_2 P) (.node (o86_2 P) .nil .nil) .nil)) (.node (o30_1 P) (.node (o46_2 P) (.node (o78_2 P) .nil .nil) .nil) (.node (o62_2 P) (.node (o94_2 P) .nil .nil) .nil)))
noncomputable def ts17 (T M : Nat → Stmt) (Z : Rowz) (P : Params) : BT := (.node (o6_0 P) (ts15 T M Z P) (ts16 T M Z P))
noncomputable def ts18 (T M : Nat → Stmt) (Z : Rowz) (P : Params) : BT := (.node (o2_0 P) (ts14 T M Z P) (ts17 T M Z P))
noncomputable def tr2 (T M : Nat → Stmt) (Z : Rowz) (P : Params) : BT := (.node (o0_0 P) (ts11 T M Z P) (ts18 T M Z P))
noncomputable def ts19 (T M : Nat → Stmt) (Z : Rowz) (P : Params) : BT := (.node (o15_0 P) (.node (o31_1 P) (.node (v63_2 T M Z P) (.node (o127_3 P) .nil .nil) .nil) (.node (v95_2 T M Z P) .nil .nil)) (.node (o47_2 P) (.node (v79_2 T M Z P) (.node (o143_3 P) .nil .nil) .nil) (.node (o111_3 P) .nil .nil)))
noncomputable def ts20 (T M : Nat → Stmt) (Z : Rowz) (P : Params) : BT := (.node (o23_0 P) (.node (o39_2 P) (.node (o71_2 P) (.node (o135_3 P) .nil .nil) .nil) (.node (o103_3 P) .nil .nil)) (.node (o55_2 P) (.node (v87_2 T M Z P) (.node (o151_3 P) .nil .nil) .nil) (.node (o119_3 P) .nil .nil)))
noncomputable def ts21 (P : Params) : BT := (.node (o19_0 P) (.node (o35_2 P) (.node (o67_2 P) (.node (o131_3 P) .nil .nil) .nil) (.node (o99_3 P) .nil .nil)) (.node (o51_2 P) (.node (o83_2 P) (.node (o147_3 P) .nil .nil) .nil) (.node (o115_3 P) .nil .nil)))
noncomputable def ts22 (T M : Nat → Stmt) (Z : Rowz) (P : Params) : BT := (.node (o27_0 P) (.node (o43_2 P) (.node (o75_2 P) (.node (o139_3 P) .nil .nil) .nil) (.node (v107_3 T M Z P) .nil .nil)) (.node (o59_2 P) (.node (o91_2 P) .nil .nil) (.node (v123_3 T M Z P) .nil .nil)))
noncomputable def ts23 (T M : Nat → Stmt) (Z : Rowz) (P : Params) : BT := (.node (o3_3 P) (.node (o7_0 P) (ts19 T M Z P) (ts20 T M Z P)) (.node (o11_0 P) (ts21 P) (ts22 T M Z P)))
noncomputable def ts24 (T M : Nat → Stmt) (Z : Rowz) (P : Params) : BT := (.node (o17_0 P) (.node (o33_2 P) (.node (v65_2 T M Z P) (.node (o129_3 P) .nil .nil) .nil) (.node (o97_3 P) .nil .nil)) (.node (o49_2 P) (.node (o81_2 P) (.node (o145_3 P) .nil .nil) .nil) (.node (o113_3 P) .nil .nil)))
noncomputable def ts25 (T M : Nat → Stmt) (Z : Rowz) (P : Params) : BT := (.node (o25_0 P) (.node (o41_2 P) (.node (o73_2 P) (.node (o137_3 P) .nil .nil) .nil) (.node (o105_3 P) .nil .nil)) (.node (o57_2 P) (.node (o89_2 P) (.node (o153_3 P) .nil .nil) .nil) (.node (v121_3 T M Z P) .nil .nil)))
noncomputable def ts26 (T M : Nat → Stmt) (Z : Rowz) (P : Params) : BT := (.node (o21_0 P) (.node (o37_2 P) (.node (o69_2 P) (.node (o133_3 P) .nil .nil) .nil) (.node (o101_3 P) .nil .nil)) (.node (o53_2 P) (.node (v85_2 T M Z P) (.node (o149_3 P) .nil .nil) .nil) (.node (o117_3 P) .nil .nil)))
noncomputable def ts27 (T M : Nat → Stmt) (Z : Rowz) (P : Params) : BT := (.node (o29_3 P) (.node (o45_2 P) (.node (v77_2 T M Z P) (.node (o141_3 P) .nil .nil) .nil) (.node (v109_3 T M Z P) .nil .nil)) (.node (o61_2 P) (.node (v93_2 T M Z P) .nil .nil) (.node (o125_3 P) .nil .nil)))
noncomputable def ts28 (T M : Nat → Stmt) (Z : Rowz) (P : Params) : BT := (.node (o5_0 P) (.node (o9_0 P) (ts24 T M Z P) (ts25 T M Z P)) (.node (o13_0 P) (ts26 T M Z P) (ts27 T M Z P)))
noncomputable def ts29 (T M : Nat → Stmt) (Z : Rowz) (P : Params) : BT := (.node (o1_0 P) (ts23 T M Z P) (ts28 T M Z P))
noncomputable def ts30 (T M : Nat → Stmt) (Z : Rowz) (P : Params) : BT := (.node (o16_0 P) (.node (o32_2 P) (.node (o64_2 P) (.node (v128_3 T M Z P) .nil .nil) .nil) (.node (o96_3 P) .nil .nil)) (.node (o48_2 P) (.node (o80_2 P) (.node (o144_3 P) .nil .nil) .nil) (.node (o112_3 P) .nil .nil)))
noncomputable def ts31 (T M : Nat → Stmt) (Z : Rowz) (P : Params) : BT := (.node (o24_0 P) (.node (o40_2 P) (.node (v72_2 T M Z P) (.node (o136_3 P) .nil .nil) .nil) (.node (o104_3 P) .nil .nil)) (.node (v56_2 T M Z P) (.node (o88_2 P) (.node (v152_3 T M Z P) .nil .nil) .nil) (.node (o120_3 P) .nil .nil)))
noncomputable def ts32 (T M : Nat → Stmt) (Z : Rowz) (P : Params) : BT := (.node (o20_0 P) (.node (v36_2 T M Z P) (.node (o68_2 P) (.node (o132_3 P) .nil .nil) .nil) (.node (o100_3 P) .nil .nil)) (.node (o52_2 P) (.node (o84_2 P) (.node (o148_3 P) .nil .nil) .nil) (.node (v116_3 T M Z P) .nil .nil)))
noncomputable def ts33 (P : Params) : BT := (.node (o28_1 P) (.node (o44_2 P) (.node (o76_2 P) (.node (o140_3 P) .nil .nil) .nil) (.node (o108_3 P) .nil .nil)) (.node (o60_2 P) (.node (o92_2 P) .nil .nil) (.node (o124_3 P) .nil .nil)))
noncomputable def ts34 (T M : Nat → Stmt) (Z : Rowz) (P : Params) : BT := (.node (o4_0 P) (.node (o8_0 P) (ts30 T M Z P) (ts31 T M Z P)) (.node (o12_0 P) (ts32 T M Z P) (ts33 P)))
noncomputable def ts35 (T M : Nat → Stmt) (Z : Rowz) (P : Params) : BT := (.node (o18_0 P) (.node (o34_2 P) (.node (o66_2 P) (.node (v130_3 T M Z P) .nil .nil) .nil) (.node (o98_3 P) .nil .nil)) (.node (o50_2 P) (.node (o82_2 P) (.node (o146_3 P) .nil .nil) .nil) (.node (v114_3 T M Z P) .nil .nil)))
noncomputable def ts36 (T M : Nat → Stmt) (Z : Rowz) (P : Params) : BT := (.node (o26_0 P) (.node (o42_2 P) (.node (o74_2 P) (.node (o138_3 P) .nil .nil) .nil) (.node (o106_3 P) .nil .nil)) (.node (v58_2 T M Z P) (.node (o90_2 P) (.node (v154_3 T M Z P) .nil .nil) .nil) (.node (o122_3 P) .nil .nil)))
noncomputable def ts37 (T M : Nat → Stmt) (Z : Rowz) (P : Params) : BT := (.node (o22_0 P) (.node (v38_2 T M Z P) (.node (v70_2 T M Z P) (.node (o134_3 P) .nil .nil) .nil) (.node (o102_3 P) .nil .nil)) (.node (o54_2 P) (.node (o86_2 P) (.node (o150_3 P) .nil .nil) .nil) (.node (o118_3 P) .nil .nil)))
noncomputable def ts38 (P : Params) : BT := (.node (o30_1 P) (.node (o46_2 P) (.node (o78_2 P) (.node (o142_3 P) .nil .nil) .nil) (.node (o110_3 P) .nil .nil)) (.node (o62_2 P) (.node (o94_2 P) .nil .nil) (.node (o126_3 P) .nil .nil)))
noncomputable def ts39 (T M : Nat → Stmt) (Z : Rowz) (P : Params) : BT := (.node (o6_0 P) (.node (o10_0 P) (ts35 T M Z P) (ts36 T M Z P)) (.node (o14_0 P) (ts37 T M Z P) (ts38 P)))
noncomputable def ts40 (T M : Nat → Stmt) (Z : Rowz) (P : Params) : BT := (.node (o2_0 P) (ts34 T M Z P) (ts39 T M Z P))
noncomputable def tr3 (T M : Nat → Stmt) (Z : Rowz) (P : Params) : BT := (.node (o0_0 P) (ts29 T M Z P) (ts40 T M Z P))
noncomputable def ts41 (T M : Nat → Stmt) (Z : Rowz) (P : Params) : BT := (.node (o15_0 P) (.node (o31_1 P) (.node (v63_2 T M Z P) (.node (o127_3 P) .nil .nil) .nil) (.node (v95_2 T M Z P) (.node (o159_4 P) .nil .nil) .nil)) (.node (o47_2 P) (.node (v79_2 T M Z P) (.node (o143_3 P) .nil .nil) .nil) (.node (o111_3 P) .nil .nil)))
noncomputable def ts42 (T M : Nat → Stmt) (Z : Rowz) (P : Params) : BT := (.node (o7_0 P) (ts41 T M Z P) (ts20 T M Z P))
noncomputable def ts43 (P : Params) : BT := (.node (o19_0 P) (.node (o35_2 P) (.node (o67_2 P) (.node (o131_3 P) .nil .nil) .nil) (.node (o99_3 P) (.node (o163_4 P) .nil .nil) .nil)) (.node (o51_2 P) (.node (o83_2 P) (.node (o147_3 P) .nil .nil) .nil) (.node (o115_3 P) .nil .nil)))
noncomputable def ts44 (T M : Nat → Stmt) (Z : Rowz) (P : Params) : BT := (.node (o27_0 P) (.node (o43_2 P) (.node (o75_2 P) (.node (o139_3 P) .nil .nil) .nil) (.node (v107_3 T M Z P) .nil .nil)) (.node (o59_2 P) (.node (o91_2 P) (.node (o155_4 P) .nil .nil) .nil) (.node (v123_3 T M Z P) .nil .nil)))
noncomputable def ts45 (T M : Nat → Stmt) (Z : Rowz) (P : Params) : BT := (.node (o11_0 P) (ts43 P) (ts44 T M Z P))
noncomputable def ts46 (T M : Nat → Stmt) (Z : Rowz) (P : Params) : BT := (.node (o3_4 P) (ts42 T M Z P) (ts45 T M Z P))
noncomputable def ts47 (T M : Nat → Stmt) (Z : Rowz) (P : Params) : BT := (.node (o17_0 P) (.node (o33_2 P) (.node (v65_2 T M Z P) (.node (o129_3 P) .nil .nil) .nil) (.node (o97_3 P) (.node (o161_4 P) .nil .nil) .nil)) (.node (o49_2 P) (.node (o81_2 P) (.node (o145_3 P) .nil .nil) .nil) (.node (o113_3 P) .nil .nil)))
noncomputable def ts48 (T M : Nat → Stmt) (Z : Rowz) (P : Params) : BT := (.node (o9_0 P) (ts47 T M Z P) (ts25 T M Z P))
noncomputable def ts49 (T M : Nat → Stmt) (Z : Rowz) (P : Params) : BT := (.node (o21_0 P) (.node (o37_2 P) (.node (o69_2 P) (.node (o133_3 P) .nil .nil) .nil) (.node (o101_3 P) (.node (o165_4 P) .nil .nil) .nil)) (.node (o53_2 P) (.node (v85_2 T M Z P) (.node (o149_3 P) .nil .nil) .nil) (.node (o117_3 P) .nil .nil)))
noncomputable def ts50 (T M : Nat → Stmt) (Z : Rowz) (P : Params) : BT := (.node (o29_3 P) (.node (o45_2 P) (.node (v77_2 T M Z P) (.node (o141_3 P) .nil .nil) .nil) (.node (v109_3 T M Z P) .nil .nil)) (.node (o61_2 P) (.node (v93_2 T M Z P) (.node (o157_4 P) .nil .nil) .nil) (.node (o125_3 P) .nil .nil)))
noncomputable def ts51 (T M : Nat → Stmt) (Z : Rowz) (P : Params) : BT := (.node (o13_0 P) (ts49 T M Z P) (ts50 T M Z P))
noncomputable def ts52 (T M : Nat → Stmt) (Z : Rowz) (P : Params) : BT := (.node (o5_0 P) (ts48 T M Z P) (ts51 T M Z P))
noncomputable def ts53 (T M : Nat → Stmt) (Z : Rowz) (P : Params) : BT := (.node (o16_0 P) (.node (o32_2 P) (.node (o64_2 P) (.node (v128_3 T M Z P) .nil .nil) .nil) (.node (o96_3 P) (.node (o160_4 P) .nil .nil) .nil)) (.node (o48_2 P) (.node (o80_2 P) (.node (o144_3 P) .nil .nil) .nil) (.node (o112_3 P) .nil .nil)))
noncomputable def ts54 (T M : Nat → Stmt) (Z : Rowz) (P : Params) : BT := (.node (o8_0 P) (ts53 T M Z P) (ts31 T M Z P))
noncomputable def ts55 (T M : Nat → Stmt) (Z : Rowz) (P : Params) : BT := (.node (o20_0 P) (.node (v36_2 T M Z P) (.node (o68_2 P) (.node (o132_3 P) .nil .nil) .nil) (.node (o100_3 P) (.node (o164_4 P) .nil .nil) .nil)) (.node (o52_2 P) (.node (o84_2 P) (.node (o148_3 P) .nil .nil) .nil) (.node (v116_3 T M Z P) .nil .nil)))
noncomputable def ts56 (P : Params) : BT := (.node (o28_1 P) (.node (o44_2 P) (.node (o76_2 P) (.node (o140_3 P) .nil .nil) .nil) (.node (o108_3 P) .nil .nil)) (.node (o60_2 P) (.node (o92_2 P) (.node (o156_4 P) .nil .nil) .nil) (.node (o124_3 P) .nil .nil)))
noncomputable def ts57 (T M : Nat → Stmt) (Z : Rowz) (P : Params) : BT := (.node (o12_0 P) (ts55 T M Z P) (ts56 P))
noncomputable def ts58 (T M : Nat → Stmt) (Z : Rowz) (P : Params) : BT := (.node (o4_0 P) (ts54 T M Z P) (ts57 T M Z P))
noncomputable def ts59 (T M : Nat → Stmt) (Z : Rowz) (P : Params) : BT := (.node (o18_0 P) (.node (o34_2 P) (.node (o66_2 P) (.node (v130_3 T M Z P) .nil .nil) .nil) (.node (o98_3 P) (.node (o162_4 P) .nil .nil) .nil)) (.node (o50_2 P) (.node (o82_2 P) (.node (o146_3 P) .nil .nil) .nil) (.node (v114_3 T M Z P) .nil .nil)))
noncomputable def ts60 (T M : Nat → Stmt) (Z : Rowz) (P : Params) : BT := (.node (o10_0 P) (ts59 T M Z P) (ts36 T M Z P))
noncomputable def ts61 (P : Params) : BT := (.node (o30_1 P) (.node (o46_2 P) (.node (o78_2 P) (.node (o142_3 P) .nil .nil) .nil) (.node (o110_3 P) .nil .nil)) (.node (o62_2 P) (.node (o94_2 P) (.node (o158_4 P) .nil .nil) .nil) (.node (o126_3 P) .nil .nil)))
noncomputable def ts62 (T M : Nat → Stmt) (Z : Rowz) (P : Params) : BT := (.node (o6_0 P) (ts60 T M Z P) (.node (o14_0 P) (ts37 T M Z P) (ts61 P)))
noncomputable def tr4 (T M : Nat → Stmt) (Z : Rowz) (P : Params) : BT := (.node (o0_0 P) (.node (o1_0 P) (ts46 T M Z P) (ts52 T M Z P)) (.node (o2_0 P) (ts58 T M Z P) (ts62 T M Z P)))
noncomputable def ts63 (T M : Nat → Stmt) (Z : Rowz) (P : Params) : BT := (.node (o23_0 P) (.node (o39_2 P) (.node (o71_2 P) (.node (o135_3 P) .nil .nil) .nil) (.node (o103_3 P) (.node (o167_5 P) .nil .nil) .nil)) (.node (o55_2 P) (.node (v87_2 T M Z P) (.node (o151_3 P) .nil .nil) .nil) (.node (o119_3 P) .nil .nil)))
noncomputable def ts64 (T M : Nat → Stmt) (Z : Rowz) (P : Params) : BT := (.node (o7_0 P) (ts41 T M Z P) (ts63 T M Z P))
noncomputable def ts65 (T M : Nat → Stmt) (Z : Rowz) (P : Params) : BT := (.node (o27_0 P) (.node (o43_2 P) (.node (o75_2 P) (.node (o139_3 P) .nil .nil) .nil) (.node (v107_3 T M Z P) (.node (o171_5 P) .nil .nil) .nil)) (.node (o59_2 P) (.node (o91_2 P) (.node (o155_4 P) .nil .nil) .nil) (.node (v123_3 T M Z P) .nil .nil)))
noncomputable def ts66 (T M : Nat → Stmt) (Z : Rowz) (P : Params) : BT := (.node (o11_0 P) (ts43 P) (ts65 T M Z P))
noncomputable def ts67 (T M : Nat → Stmt) (Z : Rowz) (P : Params) : BT := (.node (o3_5 P) (ts64 T M Z P) (ts66 T M Z P))
noncomputable def ts68 (T M : Nat → Stmt) (Z : Rowz) (P : Params) : BT := (.node (o25_0 P) (.node (o41_2 P) (.node (o73_2 P) (.node (o137_3 P) .nil .nil) .nil) (.node (o105_3 P) (.node (o169_5 P) .nil .nil) .nil)) (.node (o57_2 P) (.node (o89_2 P) (.node (o153_3 P) .nil .nil) .nil) (.node (v121_3 T M Z P) .nil .nil)))
noncomputable def ts69 (T M : Nat → Stmt) (Z : Rowz) (P : Params) : BT := (.node (o9_0 P) (ts47 T M Z P) (ts68 T M Z P))
noncomputable def ts70 (T M : Nat → Stmt) (Z : Rowz) (P : Params) : BT := (.node (o29_5 P) (.node (o45_2 P) (.node (v77_2 T M Z P) (.node (o141_3 P) .nil .nil) .nil) (.node (v109_3 T M Z P) .nil .nil)) (.node (o61_2 P) (.node (v93_2 T M Z P) (.node (o157_4 P) .nil .nil) .nil) (.node (o125_3 P) .nil .nil)))
noncomputable def ts71 (T M : Nat → Stmt) (Z : Rowz) (P : Params) : BT := (.node (o13_0 P) (ts49 T M Z P) (ts70 T M Z P))
noncomputable def ts72 (T M : Nat → Stmt) (Z : Rowz) (P : Params) : BT := (.node (o5_0 P) (ts69 T M Z P) (ts71 T M Z P))
noncomputable def ts73 (T M : Nat → Stmt) (Z : Rowz) (P : Params) : BT := (.node (o24_0 P) (.node (o40_2 P) (.node (v72_2 T M Z P) (.node (o136_3 P) .nil .nil) .nil) (.node (o104_3 P) (.node (o168_5 P) .nil .nil) .nil)) (.node (v56_2 T M Z P) (.node (o88_2 P) (.node (v152_3 T M Z P) .nil .nil) .nil) (.node (o120_3 P) .nil .nil)))
noncomputable def ts74 (T M : Nat → Stmt) (Z : Rowz) (P : Params) : BT := (.node (o8_0 P) (ts53 T M Z P) (ts73 T M Z P))
noncomputable def ts75 (T M : Nat → Stmt) (Z : Rowz) (P : Params) : BT := (.node (o28_1 P) (.node (o44_2 P) (.node (o76_2 P) (.node (o140_3 P) .nil .nil) .nil) (.node (o108_3 P) (.node (v172_5 T M Z P) .nil .nil) .nil)) (.node (o60_2 P) (.node (o92_2 P) (.node (o156_4 P) .nil .nil) .nil) (.node (o124_3 P) .nil .nil)))
noncomputable def ts76 (T M : Nat → Stmt) (Z : Rowz) (P : Params) : BT := (.node (o12_0 P) (ts55 T M Z P) (ts75 T M Z P))
noncomputable def ts77 (T M : Nat → Stmt) (Z : Rowz) (P : Params) : BT := (.node (o4_0 P) (ts74 T M Z P) (ts76 T M Z P))
noncomputable def ts78 (T M : Nat → Stmt) (Z : Rowz) (P : Params) : BT := (.node (o26_0 P) (.node (o42_2 P) (.node (o74_2 P) (.node (o138_3 P) .nil .nil) .nil) (.node (o106_3 P) (.node (v170_5 T M Z P) .nil .nil) .nil)) (.node (v58_2 T M Z P) (.node (o90_2 P) (.node (v154_3 T M Z P) .nil .nil) .nil) (.node (o122_3 P) .nil .nil)))
noncomputable def ts79 (T M : Nat → Stmt) (Z : Rowz) (P : Params) : BT := (.node (o10_0 P) (ts59 T M Z P) (ts78 T M Z P))
noncomputable def ts80 (T M : Nat → Stmt) (Z : Rowz) (P : Params) : BT := (.node (o22_0 P) (.node (v38_2 T M Z P) (.node (v70_2 T M Z P) (.node (o134_3 P) .nil .nil) .nil) (.node (o102_3 P) (.node (o166_5 P) .nil .nil) .nil)) (.node (o54_2 P) (.node (o86_2 P) (.node (o150_3 P) .nil .nil) .nil) (.node (o118_3 P) .nil .nil)))
noncomputable def ts81 (T M : Nat → Stmt) (Z : Rowz) (P : Params) : BT := (.node (o14_0 P) (ts80 T M Z P) (ts61 P))
noncomputable def ts82 (T M : Nat → Stmt) (Z : Rowz) (P : Params) : BT := (.node (o6_0 P) (ts79 T M Z P) (ts81 T M Z P))
noncomputable def tr5 (T M : Nat → Stmt) (Z : Rowz) (P : Params) : BT := (.node (o0_0 P) (.node (o1_0 P) (ts67 T M Z P) (ts72 T M Z P)) (.node (o2_0 P) (ts77 T M Z P) (ts82 T M Z P)))
noncomputable def ts83 (T M : Nat → Stmt) (Z : Rowz) (P : Params) : BT := (.node (o15_0 P) (.node (o31_1 P) (.node (v63_2 T M Z P) (.node (o127_3 P) .nil .nil) (.node (v191_6 T M Z P) .nil .nil)) (.node (v95_2 T M Z P) (.node (o159_4 P) .nil .nil) .nil)) (.node (o47_2 P) (.node (v79_2 T M Z P) (.node (o143_3 P) .nil .nil) (.node (v207_6 T M Z P) .nil .nil)) (.node (o111_3 P) (.node (v175_6 T M Z P) .nil .nil) .nil)))
noncomputable def ts84 (T M : Nat → Stmt) (Z : Rowz) (P : Params) : BT := (.node (o23_0 P) (.node (o39_2 P) (.node (o71_2 P) (.node (o135_3 P) .nil .nil) (.node (v199_6 T M Z P) .nil .nil)) (.node (o103_3 P) (.node (o167_5 P) .nil .nil) .nil)) (.node (o55_2 P) (.node (v87_2 T M Z P) (.node (o151_3 P) .nil .nil) .nil) (.node (o119_3 P) (.node (v183_6 T M Z P) .nil .nil) .nil)))
noncomputable def ts85 (T M : Nat → Stmt) (Z : Rowz) (P : Params) : BT := (.node (o7_0 P) (ts83 T M Z P) (ts84 T M Z P))
noncomputable def ts86 (T M : Nat → Stmt) (Z : Rowz) (P : Params) : BT := (.node (o19_0 P) (.node (o35_2 P) (.node (o67_2 P) (.node (o131_3 P) .nil .nil) (.node (v195_6 T M Z P) .nil .nil)) (.node (o99_3 P) (.node (o163_4 P) .nil .nil) .nil)) (.node (o51_2 P) (.node (o83_2 P) (.node (o147_3 P) .nil .nil) (.node (v211_6 T M Z P) .nil .nil)) (.node (o115_3 P) (.node (v179_6 T M Z P) .nil .nil) .nil)))
noncomputable def ts87 (T M : Nat → Stmt) (Z : Rowz) (P : Params) : BT := (.node (o27_0 P) (.node (o43_2 P) (.node (o75_2 P) (.node (o139_3 P) .nil .nil) (.node (v203_6 T M Z P) .nil .nil)) (.node (v107_3 T M Z P) (.node (o171_5 P) .nil .nil) .nil)) (.node (o59_2 P) (.node (o91_2 P) (.node (o155_4 P) .nil .nil) .nil) (.node (v123_3 T M Z P) (.node (v187_6 T M Z P) .nil .nil) .nil)))
noncomputable def ts88 (T M : Nat → Stmt) (Z : Rowz) (P : Params) : BT := (.node (o11_0 P) (ts86 T M Z P) (ts87 T M Z P))
noncomputable def ts89 (T M : Nat → Stmt) (Z : Rowz) (P : Params) : BT := (.node (o3_6 P) (ts85 T M Z P) (ts88 T M Z P))
noncomputable def ts90 (T M : Nat → Stmt) (Z : Rowz) (P : Params) : BT := (.node (o17_0 P) (.node (o33_2 P) (.node (v65_2 T M Z P) (.node (o129_3 P) .nil .nil) (.node (v193_6 T M Z P) .nil .nil)) (.node (o97_3 P) (.node (o161_4 P) .nil .nil) .nil)) (.node (o49_2 P) (.node (o81_2 P) (.node (o145_3 P) .nil .nil) (.node (v209_6 T M Z P) .nil .nil)) (.node (o113_3 P) (.node (v177_6 T M Z P) .nil .nil) .nil)))
noncomputable def ts91 (T M : Nat → Stmt) (Z : Rowz) (P : Params) : BT := (.node (o25_0 P) (.node (o41_2 P) (.node (o73_2 P) (.node (o137_3 P) .nil .nil) (.node (v201_6 T M Z P) .nil .nil)) (.node (o105_3 P) (.node (o169_5 P) .nil .nil) .nil)) (.node (o57_2 P) (.node (o89_2 P) (.node (o153_3 P) .nil .nil) .nil) (.node (v121_3 T M Z P) (.node (v185_6 T M Z P) .nil .nil) .nil)))
noncomputable def ts92 (T M : Nat → Stmt) (Z : Rowz) (P : Params) : BT := (.node (o9_0 P) (ts90 T M Z P) (ts91 T M Z P))
noncomputable def ts93 (T M : Nat → Stmt) (Z : Rowz) (P : Params) : BT := (.node (o21_0 P) (.node (o37_2 P) (.node (o69_2 P) (.node (o133_3 P) .nil .nil) (.node (v197_6 T M Z P) .nil .nil)) (.node (o101_3 P) (.node (o165_4 P) .nil .nil) .nil)) (.node (o53_2 P) (.node (v85_2 T M Z P) (.node (o149_3 P) .nil .nil) .nil) (.node (o117_3 P) (.node (v181_6 T M Z P) .nil .nil) .nil)))
noncomputable def ts94 (T M : Nat → Stmt) (Z : Rowz) (P : Params) : BT := (.node (o29_5 P) (.node (o45_2 P) (.node (v77_2 T M Z P) (.node (o141_3 P) .nil .nil) (.node (v205_6 T M Z P) .nil .nil)) (.node (v109_3 T M Z P) (.node (v173_6 T M Z P) .nil .nil) .nil)) (.node (o61_2 P) (.node (v93_2 T M Z P) (.node (o157_4 P) .nil .nil) .nil) (.node (o125_3 P) (.node (v189_6 T M Z P) .nil .nil) .nil)))
noncomputable def ts95 (T M : Nat → Stmt) (Z : Rowz) (P : Params) : BT := (.node (o13_0 P) (ts93 T M Z P) (ts94 T M Z P))
noncomputable def ts96 (T M : Nat → Stmt) (Z : Rowz) (P : Params) : BT := (.node (o5_0 P) (ts92 T M Z P) (ts95 T M Z P))
noncomputable def ts97 (T M : Nat → Stmt) (Z : Rowz) (P : Params) : BT := (.node (o16_0 P) (.node (o32_2 P) (.node (o64_2 P) (.node (v128_3 T M Z P) .nil .nil) (.node (v192_6 T M Z P) .nil .nil)) (.node (o96_3 P) (.node (o160_4 P) .nil .nil) .nil)) (.node (o48_2 P) (.node (o80_2 P) (.node (o144_3 P) .nil .nil) (.node (v208_6 T M Z P) .nil .nil)) (.node (o112_3 P) (.node (v176_6 T M Z P) .nil .nil) .nil)))
noncomputable def ts98 (T M : Nat → Stmt) (Z : Rowz) (P : Params) : BT := (.node (o24_0 P) (.node (o40_2 P) (.node (v72_2 T M Z P) (.node (o136_3 P) .nil .nil) (.node (v200_6 T M Z P) .nil .nil)) (.node (o104_3 P) (.node (o168_5 P) .nil .nil) .nil)) (.node (v56_2 T M Z P) (.node (o88_2 P) (.node (v152_3 T M Z P) .nil .nil) .nil) (.node (o120_3 P) (.node (v184_6 T M Z P) .nil .nil) .nil)))
noncomputable def ts99 (T M : Nat → Stmt) (Z : Rowz) (P : Params) : BT := (.node (o8_0 P) (ts97 T M Z P) (ts98 T M Z P))
noncomputable def ts100 (T M : Nat → Stmt) (Z : Rowz) (P : Params) : BT := (.node (o20_0 P) (.node (v36_2 T M Z P) (.node (o68_2 P) (.node (o132_3 P) .nil .nil) (.node (v196_6 T M Z P) .nil .nil)) (.node (o100_3 P) (.node (o164_4 P) .nil .nil) .nil)) (.node (o52_2 P) (.node (o84_2 P) (.node (o148_3 P) .nil .nil) .nil) (.node (v116_3 T M Z P) (.node (v180_6 T M Z P) .nil .nil) .nil)))
noncomputable def ts101 (T M : Nat → Stmt) (Z : Rowz) (P : Params) : BT := (.node (o28_1 P) (.node (o44_2 P) (.node (o76_2 P) (.node (o140_3 P) .nil .nil) (.node (v204_6 T M Z P) .nil .nil)) (.node (o108_3 P) (.node (v172_5 T M Z P) .nil .nil) .nil)) (.node (o60_2 P) (.node (o92_2 P) (.node (o156_4 P) .nil .nil) .nil) (.node (o124_3 P) (.node (v188_6 T M Z P) .nil .nil) .nil)))
noncomputable def ts102 (T M : Nat → Stmt) (Z : Rowz) (P : Params) : BT := (.node (o12_0 P) (ts100 T M Z P) (ts101 T M Z P))
noncomputable def ts103 (T M : Nat → Stmt) (Z : Rowz) (P : Params) : BT := (.node (o4_0 P) (ts99 T M Z P) (ts102 T M Z P))
noncomputable def ts104 (T M : Nat → Stmt) (Z : Rowz) (P : Params) : BT := (.node (o18_0 P) (.node (o34_2 P) (.node (o66_2 P) (.node (v130_3 T M Z P) .nil .nil) (.node (v194_6 T M Z P) .nil .nil)) (.node (o98_3 P) (.node (o162_4 P) .nil .nil) .nil)) (.node (o50_2 P) (.node (o82_2 P) (.node (o146_3 P) .nil .nil) (.node (v210_6 T M Z P) .nil .nil)) (.node (v114_3 T M Z P) (.node (v178_6 T M Z P) .nil .nil) .nil)))
noncomputable def ts105 (T M : Nat → Stmt) (Z : Rowz) (P : Params) : BT := (.node (o26_0 P) (.node (o42_2 P) (.node (o74_2 P) (.node (o138_3 P) .nil .nil) (.node (v202_6 T M Z P) .nil .nil)) (.node (o106_3 P) (.node (v170_5 T M Z P) .nil .nil) .nil)) (.node (v58_2 T M Z P) (.node (o90_2 P) (.node (v154_3 T M Z P) .nil .nil) .nil) (.node (o122_3 P) (.node (v186_6 T M Z P) .nil .nil) .nil)))
noncomputable def ts106 (T M : Nat → Stmt) (Z : Rowz) (P : Params) : BT := (.node (o10_0 P) (ts104 T M Z P) (ts105 T M Z P))
noncomputable def ts107 (T M : Nat → Stmt) (Z : Rowz) (P : Params) : BT := (.node (o22_0 P) (.node (v38_2 T M Z P) (.node (v70_2 T M Z P) (.node (o134_3 P) .nil .nil) (.node (v198_6 T M Z P) .nil .nil)) (.node (o102_3 P) (.node (o166_5 P) .nil .nil) .nil)) (.node (o54_2 P) (.node (o86_2 P) (.node (o150_3 P) .nil .nil) .nil) (.node (o118_3 P) (.node (v182_6 T M Z P) .nil .nil) .nil)))
noncomputable def ts108 (T M : Nat → Stmt) (Z : Rowz) (P : Params) : BT := (.node (o30_1 P) (.node (o46_2 P) (.node (o78_2 P) (.node (o142_3 P) .nil .nil) (.node (v206_6 T M Z P) .nil .nil)) (.node (o110_3 P) (.node (v174_6 T M Z P) .nil .nil) .nil)) (.node (o62_2 P) (.node (o94_2 P) (.node (o158_4 P) .nil .nil) .nil) (.node (o126_3 P) (.node (v190_6 T M Z P) .nil .nil) .nil)))
noncomputable def ts109 (T M : Nat → Stmt) (Z : Rowz) (P : Params) : BT := (.node (o14_0 P) (ts107 T M Z P) (ts108 T M Z P))
noncomputable def ts110 (T M : Nat → Stmt) (Z : Rowz) (P : Params) : BT := (.node (o6_0 P) (ts106 T M Z P) (ts109 T M Z P))
noncomputable def tr6 (T M : Nat → Stmt) (Z : Rowz) (P : Params) : BT := (.node (o0_0 P) (.node (o1_0 P) (ts89 T M Z P) (ts96 T M Z P)) (.node (o2_0 P) (ts103 T M Z P) (ts110 T M Z P)))
noncomputable def ts111 (T M : Nat → Stmt) (Z : Rowz) (P : Params) : BT := (.node (o15_0 P) (.node (o31_1 P) (.node (v63_2 T M Z P) (.node (o127_3 P) (.node (o255_7 P) .nil .nil) .nil) (.node (v191_6 T M Z P) .nil .nil)) (.node (v95_2 T M Z P) (.node (o159_4 P) .nil .nil) (.node (v223_7 T M Z P) .nil .nil))) (.node (o47_2 P) (.node (v79_2 T M Z P) (.node (o143_3 P) .nil .nil) (.node (v207_6 T M Z P) .nil .nil)) (.node (o111_3 P) (.node (v175_6 T M Z P) .nil .nil) (.node (v239_7 T M Z P) .nil .nil))))
noncomputable def ts112 (T M : Nat → Stmt) (Z : Rowz) (P : Params) : BT := (.node (o23_0 P) (.node (o39_2 P) (.node (o71_2 P) (.node (o135_3 P) .nil .nil) (.node (v199_6 T M Z P) .nil .nil)) (.node (o103_3 P) (.node (o167_5 P) .nil .nil) (.node (o231_7 P) .nil .nil))) (.node (o55_2 P) (.node (v87_2 T M Z P) (.node (o151_3 P) .nil .nil) (.node (o215_7 P) .nil .nil)) (.node (o119_3 P) (.node (v183_6 T M Z P) .nil .nil) (.node (o247_7 P) .nil .nil))))
noncomputable def ts113 (T M : Nat → Stmt) (Z : Rowz) (P : Params) : BT := (.node (o7_0 P) (ts111 T M Z P) (ts112 T M Z P))
noncomputable def ts114 (T M : Nat → Stmt) (Z : Rowz) (P : Params) : BT := (.node (o19_0 P) (.node (o35_2 P) (.node (o67_2 P) (.node (o131_3 P) .nil .nil) (.node (v195_6 T M Z P) .nil .nil)) (.node (o99_3 P) (.node (o163_4 P) .nil .nil) (.node (o227_7 P) .nil .nil))) (.node (o51_2 P) (.node (o83_2 P) (.node (o147_3 P) .nil .nil) (.node (v211_6 T M Z P) .nil .nil)) (.node (o115_3 P) (.node (v179_6 T M Z P) .nil .nil) (.node (o243_7 P) .nil .nil))))
noncomputable def ts115 (T M : Nat → Stmt) (Z : Rowz) (P : Params) : BT := (.node (o27_0 P) (.node (o43_2 P) (.node (o75_2 P) (.node (o139_3 P) .nil .nil) (.node (v203_6 T M Z P) .nil .nil)) (.node (v107_3 T M Z P) (.node (o171_5 P) .nil .nil) (.node (o235_7 P) .nil .nil))) (.node (o59_2 P) (.node (o91_2 P) (.node (o155_4 P) .nil .nil) (.node (o219_7 P) .nil .nil)) (.node (v123_3 T M Z P) (.node (v187_6 T M Z P) .nil .nil) (.node (v251_7 T M Z P) .nil .nil))))
noncomputable def ts116 (T M : Nat → Stmt) (Z : Rowz) (P : Params) : BT := (.node (o11_0 P) (ts114 T M Z P) (ts115 T M Z P))
noncomputable def ts117 (T M : Nat → Stmt) (Z : Rowz) (P : Params) : BT := (.node (o3_7 P) (ts113 T M Z P) (ts116 T M Z P))
noncomputable def ts118 (T M : Nat → Stmt) (Z : Rowz) (P : Params) : BT := (.node (o17_0 P) (.node (o33_2 P) (.node (v65_2 T M Z P) (.node (o129_3 P) (.node (o257_7 P) .nil .nil) .nil) (.node (v193_6 T M Z P) .nil .nil)) (.node (o97_3 P) (.node (o161_4 P) .nil .nil) (.node (v225_7 T M Z P) .nil .nil))) (.node (o49_2 P) (.node (o81_2 P) (.node (o145_3 P) .nil .nil) (.node (v209_6 T M Z P) .nil .nil)) (.node (o113_3 P) (.node (v177_6 T M Z P) .nil .nil) (.node (o241_7 P) .nil .nil))))
noncomputable def ts119 (T M : Nat → Stmt) (Z : Rowz) (P : Params) : BT := (.node (o25_0 P) (.node (o41_2 P) (.node (o73_2 P) (.node (o137_3 P) .nil .nil) (.node (v201_6 T M Z P) .nil .nil)) (.node (o105_3 P) (.node (o169_5 P) .nil .nil) (.node (o233_7 P) .nil .nil))) (.node (o57_2 P) (.node (o89_2 P) (.node (o153_3 P) .nil .nil) (.node (o217_7 P) .nil .nil)) (.node (v121_3 T M Z P) (.node (v185_6 T M Z P) .nil .nil) (.node (o249_7 P) .nil .nil))))
noncomputable def ts120 (T M : Nat → Stmt) (Z : Rowz) (P : Params) : BT := (.node (o9_0 P) (ts118 T M Z P) (ts119 T M Z P))
noncomputable def ts121 (T M : Nat → Stmt) (Z : Rowz) (P : Params) : BT := (.node (o21_0 P) (.node (o37_2 P) (.node (o69_2 P) (.node (o133_3 P) .nil .nil) (.node (v197_6 T M Z P) .nil .nil)) (.node (o101_3 P) (.node (o165_4 P) .nil .nil) (.node (o229_7 P) .nil .nil))) (.node (o53_2 P) (.node (v85_2 T M Z P) (.node (o149_3 P) .nil .nil) (.node (o213_7 P) .nil .nil)) (.node (o117_3 P) (.node (v181_6 T M Z P) .nil .nil) (.node (o245_7 P) .nil .nil))))
noncomputable def ts122 (T M : Nat → Stmt) (Z : Rowz) (P : Params) : BT := (.node (o29_7 P) (.node (o45_2 P) (.node (v77_2 T M Z P) (.node (o141_3 P) .nil .nil) (.node (v205_6 T M Z P) .nil .nil)) (.node (v109_3 T M Z P) (.node (v173_6 T M Z P) .nil .nil) (.node (v237_7 T M Z P) .nil .nil))) (.node (o61_2 P) (.node (v93_2 T M Z P) (.node (o157_4 P) .nil .nil) (.node (o221_7 P) .nil .nil)) (.node (o125_3 P) (.node (v189_6 T M Z P) .nil .nil) (.node (v253_7 T M Z P) .nil .nil))))
noncomputable def ts123 (T M : Nat → Stmt) (Z : Rowz) (P : Params) : BT := (.node (o13_0 P) (ts121 T M Z P) (ts122 T M Z P))
noncomputable def ts124 (T M : Nat → Stmt) (Z : Rowz) (P : Params) : BT := (.node (o5_0 P) (ts120 T M Z P) (ts123 T M Z P))
noncomputable def ts125 (T M : Nat → Stmt) (Z : Rowz) (P : Params) : BT := (.node (o16_0 P) (.node (o32_2 P) (.node (o64_2 P) (.node (v128_3 T M Z P) (.node (v256_7 T M Z P) .nil .nil) .nil) (.node (v192_6 T M Z P) .nil .nil)) (.node (o96_3 P) (.node (o160_4 P) .nil .nil) (.node (o224_7 P) .nil .nil))) (.node (o48_2 P) (.node (o80_2 P) (.node (o144_3 P) .nil .nil) (.node (v208_6 T M Z P) .nil .nil)) (.node (o112_3 P) (.node (v176_6 T M Z P) .nil .nil) (.node (o240_7 P) .nil .nil))))
noncomputable def ts126 (T M : Nat → Stmt) (Z : Rowz) (P : Params) : BT := (.node (o24_0 P) (.node (o40_2 P) (.node (v72_2 T M Z P) (.node (o136_3 P) .nil .nil) (.node (v200_6 T M Z P) .nil .nil)) (.node (o104_3 P) (.node (o168_5 P) .nil .nil) (.node (v232_7 T M Z P) .nil .nil))) (.node (v56_2 T M Z P) (.node (o88_2 P) (.node (v152_3 T M Z P) .nil .nil) (.node (v216_7 T M Z P) .nil .nil)) (.node (o120_3 P) (.node (v184_6 T M Z P) .nil .nil) (.node (o248_7 P) .nil .nil))))
noncomputable def ts127 (T M : Nat → Stmt) (Z : Rowz) (P : Params) : BT := (.node (o8_0 P) (ts125 T M Z P) (ts126 T M Z P))
noncomputable def ts128 (T M : Nat → Stmt) (Z : Rowz) (P : Params) : BT := (.node (o20_0 P) (.node (v36_2 T M Z P) (.node (o68_2 P) (.node (o132_3 P) .nil .nil) (.node (v196_6 T M Z P) .nil .nil)) (.node (o100_3 P) (.node (o164_4 P) .nil .nil) (.node (o228_7 P) .nil .nil))) (.node (o52_2 P) (.node (o84_2 P) (.node (o148_3 P) .nil .nil) (.node (o212_7 P) .nil .nil)) (.node (v116_3 T M Z P) (.node (v180_6 T M Z P) .nil .nil) (.node (v244_7 T M Z P) .nil .nil))))
noncomputable def ts129 (T M : Nat → Stmt) (Z : Rowz) (P : Params) : BT := (.node (o28_1 P) (.node (o44_2 P) (.node (o76_2 P) (.node (o140_3 P) .nil .nil) (.node (v204_6 T M Z P) .nil .nil)) (.node (o108_3 P) (.node (v172_5 T M Z P) .nil .nil) (.node (o236_7 P) .nil .nil))) (.node (o60_2 P) (.node (o92_2 P) (.node (o156_4 P) .nil .nil) (.node (o220_7 P) .nil .nil)) (.node (o124_3 P) (.node (v188_6 T M Z P) .nil .nil) (.node (o252_7 P) .nil .nil))))
noncomputable def ts130 (T M : Nat → Stmt) (Z : Rowz) (P : Params) : BT := (.node (o12_0 P) (ts128 T M Z P) (ts129 T M Z P))
noncomputable def ts131 (T M : Nat → Stmt) (Z : Rowz) (P : Params) : BT := (.node (o4_0 P) (ts127 T M Z P) (ts130 T M Z P))
noncomputable def ts132 (T M : Nat → Stmt) (Z : Rowz) (P : Params) : BT := (.node (o18_0 P) (.node (o34_2 P) (.node (o66_2 P) (.node (v130_3 T M Z P) (.node (v258_7 T M Z P) .nil .nil) .nil) (.node (v194_6 T M Z P) .nil .nil)) (.node (o98_3 P) (.node (o162_4 P) .nil .nil) (.node (o226_7 P) .nil .nil))) (.node (o50_2 P) (.node (o82_2 P) (.node (o146_3 P) .nil .nil) (.node (v210_6 T M Z P) .nil .nil)) (.node (v114_3 T M Z P) (.node (v178_6 T M Z P) .nil .nil) (.node (o242_7 P) .nil .nil))))
noncomputable def ts133 (T M : Nat → Stmt) (Z : Rowz) (P : Params) : BT := (.node (o26_0 P) (.node (o42_2 P) (.node (o74_2 P) (.node (o138_3 P) .nil .nil) (.node (v202_6 T M Z P) .nil .nil)) (.node (o106_3 P) (.node (v170_5 T M Z P) .nil .nil) (.node (o234_7 P) .nil .nil))) (.node (v58_2 T M Z P) (.node (o90_2 P) (.node (v154_3 T M Z P) .nil .nil) (.node (v218_7 T M Z P) .nil .nil)) (.node (o122_3 P) (.node (v186_6 T M Z P) .nil .nil) (.node (o250_7 P) .nil .nil))))
noncomputable def ts134 (T M : Nat → Stmt) (Z : Rowz) (P : Params) : BT := (.node (o10_0 P) (ts132 T M Z P) (ts133 T M Z P))
noncomputable def ts135 (T M : Nat → Stmt) (Z : Rowz) (P : Params) : BT := (.node (o22_0 P) (.node (v38_2 T M Z P) (.node (v70_2 T M Z P) (.node (o134_3 P) .nil .nil) (.node (v198_6 T M Z P) .nil .nil)) (.node (o102_3 P) (.node (o166_5 P) .nil .nil) (.node (v230_7 T M Z P) .nil .nil))) (.node (o54_2 P) (.node (o86_2 P) (.node (o150_3 P) .nil .nil) (.node (o214_7 P) .nil .nil)) (.node (o118_3 P) (.node (v182_6 T M Z P) .nil .nil) (.node (v246_7 T M Z P) .nil .nil))))
noncomputable def ts136 (T M : Nat → Stmt) (Z : Rowz) (P : Params) : BT := (.node (o30_1 P) (.node (o46_2 P) (.node (o78_2 P) (.node (o142_3 P) .nil .nil) (.node (v206_6 T M Z P) .nil .nil)) (.node (o110_3 P) (.node (v174_6 T M Z P) .nil .nil) (.node (o238_7 P) .nil .nil))) (.node (o62_2 P) (.node (o94_2 P) (.node (o158_4 P) .nil .nil) (.node (o222_7 P) .nil .nil)) (.node (o126_3 P) (.node (v190_6 T M Z P) .nil .nil) (.node (o254_7 P) .nil .nil))))
noncomputable def ts137 (T M : Nat → Stmt) (Z : Rowz) (P : Params) : BT := (.node (o14_0 P) (ts135 T M Z P) (ts136 T M Z P))
noncomputable def ts138 (T M : Nat → Stmt) (Z : Rowz) (P : Params) : BT := (.node (o6_0 P) (ts134 T M Z P) (ts137 T M Z P))
noncomputable def tr7 (T M : Nat → Stmt) (Z : Rowz) (P : Params) : BT := (.node (o0_0 P) (.node (o1_0 P) (ts117 T M Z P) (ts124 T M Z P)) (.node (o2_0 P) (ts131 T M Z P) (ts138 T M Z P)))
noncomputable def ts139 (P : Params) : BT := (.node (o1_0 P) (.node (o3_0 P) (.node (o7_0 P) (.node (o15_0 P) .nil .nil) (.node (o23_0 P) .nil .nil)) (.node (o11_e P) (.node (o19_0 P) .nil .nil) (.node (o27_0 P) .nil .nil))) (.node (o5_0 P) (.node (o9_0 P) (.node (o17_0 P) .nil .nil) (.node (o25_0 P) .nil .nil)) (.node (o13_0 P) (.node (o21_0 P) .nil .nil) .nil)))
noncomputable def tre (P : Params) : BT := (.node (o0_0 P) (ts139 P) (ts2 P))
noncomputable def ts140 (T M : Nat → Stmt) (Z : Rowz) (P : Params) : BT := (.node (o3_5 P) (ts85 T M Z P) (ts88 T M Z P))
noncomputable def trm (T M : Nat → Stmt) (Z : Rowz) (P : Params) : BT := (.node (o0_0 P) (.node (o1_0 P) (ts140 T M Z P) (ts96 T M Z P)) (.node (o2_0 P) (ts103 T M Z P) (ts110 T M Z P)))

noncomputable def o109_3 (P : Params) : Obj := v109_3 stAt mt rowz P
noncomputable def o116_3 (P : Params) : Obj := v116_3 stAt mt rowz P
noncomputable def o123_3 (P : Params) : Obj := v123_3 stAt mt rowz P
noncomputable def o130_3 (P : Params) : Obj := v130_3 stAt mt rowz P
noncomputable def o173_6 (P : Params) : Obj := v173_6 stAt mt rowz P
noncomputable def st0 (T M : Nat → Stmt) (Z : Rowz) (w : World) (os : OsState) : SharedT := ⟨tr0 w.params, 28, lifeZ, #[], {}, 276, os⟩
noncomputable def st1 (T M : Nat → Stmt) (Z : Rowz) (w : World) (os : OsState) : SharedT := ⟨tr1 w.params, 32, lifeZ, #[], {}, 282, os⟩
noncomputable def st2 (T M : Nat → Stmt) (Z : Rowz) (w : World) (os : OsState) : SharedT := ⟨tr2 T M Z w.params, 96, lifeZ, #[], {}, 374, os⟩
noncomputable def st3 (T M : Nat → Stmt) (Z : Rowz) (w : World) (os : OsState) : SharedT := ⟨tr3 T M Z w.params, 155, lifeZ, #[], {}, 502, os⟩
noncomputable def st4 (T M : Nat → Stmt) (Z : Rowz) (w : World) (os : OsState) : SharedT := ⟨tr4 T M Z w.params, 166, lifeZ, #[], {}, 562, os⟩
noncomputable def st5 (T M : Nat → Stmt) (Z : Rowz) (w : World) (os : OsState) : SharedT := ⟨tr5 T M Z w.params, 173, lifeZ, #[], {}, 569, os⟩
noncomputable def st6 (T M : Nat → Stmt) (Z : Rowz) (w : World) (os : OsState) : SharedT := ⟨tr6 T M Z w.params, 212, lifeZ, #[], {}, 2520, os⟩
noncomputable def st7 (T M : Nat → Stmt) (Z : Rowz) (w : World) (os : OsState) : SharedT := ⟨tr7 T M Z w.params, 259, lifeZ, #[], {}, 2588, os⟩
noncomputable def ste (T M : Nat → Stmt) (Z : Rowz) (w : World) (os : OsState) : SharedT := ⟨tre w.params, 28, lifeZ, #[], {}, 276, os⟩
noncomputable def stm (T M : Nat → Stmt) (Z : Rowz) (w : World) (os : OsState) : SharedT := ⟨trm T M Z w.params, 212, lifeZ, #[], {}, 2519, os⟩

noncomputable def impEndsT (tb : String → Option Builtin) (p : Program) (w : World) : Nat → SharedT → Thread → Option SharedT
  | 0, _, _ => none
  | n + 1, s, t => match t.atExitBegin with
    | some [] => some s
    | some (_ :: _) => none
    | none => match stepT (denote tb) p w s t with
      | some (s', t') => impEndsT tb p w n s' t'
      | none => none
theorem impEnds_of {tb : String → Option Builtin} {p : Program} {w : World} : ∀ {n : Nat} {s s' : SharedT} {t : Thread}, impEndsT tb p w n s t = some s' → importEnds tb p w n s.abs t = some s'.abs
  | 0, _, _, _, h => by cases h
  | n + 1, s, s', t, h => by
    unfold impEndsT at h
    unfold importEnds
    cases he : t.atExitBegin with
    | some x => rw [he] at h; cases x with
      | nil => cases h; rfl
      | cons a b => cases h
    | none =>
      rw [he] at h
      cases hs : stepT (denote tb) p w s t with
      | none => rw [hs] at h; cases h
      | some r => obtain ⟨s₂, t₂⟩ := r; rw [hs] at h; dsimp only; rw [stepT_spec hs]; exact impEnds_of h

noncomputable def stz : SharedT := ⟨.nil, 0, {}, #[], {}, 1, (start opn).1.os⟩
theorem stz_abs : stz.abs = (start opn).1 := by kernel_rfl!
noncomputable def LO (T M : Nat → Stmt) (Z : Rowz) (w : World) : Option SharedT := impEndsT treeTable opn w 800 stz (start opn).2
noncomputable def RO (T M : Nat → Stmt) (Z : Rowz) (w : World) : Option SharedT := some (ste T M Z w (start opn).1.os)
theorem LO_self : LO = LO := rfl
theorem RO_self : RO = RO := rfl
name_quick Mine_LO for Mine.LO by Mine.LO_self
name_quick Mine_RO for Mine.RO by Mine.RO_self
theorem qO (T M : Nat → Stmt) (Z : Rowz) (w : World) : PySem.W.Fast.Mine_LO T M Z w = PySem.W.Fast.Mine_RO T M Z w := by kernel_rfl!
theorem eO (T M : Nat → Stmt) (Z : Rowz) (w : World) : LO T M Z w = RO T M Z w := by
  rw [PySem.W.Fast.Mine_LO_eq, PySem.W.Fast.Mine_RO_eq]
  exact qO T M Z w

noncomputable def LF (T M : Nat → Stmt) (Z : Rowz) (w : World) (os : OsState) : Option (Heap × Array GenState × Drawn × Nat) := (fenceModules? opn ⟨absHeap (tre w.params) 28 lifeZ, #[], {}, 276, os⟩).map (fun s => (s.heap, s.gens, s.drawn, s.toks))
noncomputable def RF (T M : Nat → Stmt) (Z : Rowz) (w : World) (os : OsState) : Option (Heap × Array GenState × Drawn × Nat) := some (absHeap (tr0 w.params) 28 lifeZ, #[], {}, 276)
theorem LF_self : LF = LF := rfl
theorem RF_self : RF = RF := rfl
name_quick Mine_LF for Mine.LF by Mine.LF_self
name_quick Mine_RF for Mine.RF by Mine.RF_self
theorem qF (T M : Nat → Stmt) (Z : Rowz) (w : World) (os : OsState) : PySem.W.Fast.Mine_LF T M Z w os = PySem.W.Fast.Mine_RF T M Z w os := by kernel_rfl!
theorem eF (T M : Nat → Stmt) (Z : Rowz) (w : World) (os : OsState) : LF T M Z w os = RF T M Z w os := by
  rw [PySem.W.Fast.Mine_LF_eq, PySem.W.Fast.Mine_RF_eq]
  exact qF T M Z w os

theorem mods_eq : importedModules PySem.Challenge.pw_ta0038_01.main.body = importedModules opn.main.body := by kernel_rfl!
theorem nump_eq : PySem.Challenge.pw_ta0038_01.main.body.any namesNumpy = opn.main.body.any namesNumpy := by kernel_rfl!
theorem fence_eq (s : Shared) : fenceModules? PySem.Challenge.pw_ta0038_01 s = fenceModules? opn s := by
  unfold fenceModules?
  rw [mods_eq, nump_eq]
theorem opens (w : World) : (fencedOpening treeTable PySem.Challenge.pw_ta0038_01 w 40000).map (fun s => (s.heap, s.gens, s.drawn, s.toks)) = some (absHeap (tr0 w.params) 28 lifeZ, #[], {}, 276) :=
  open_cut (p := PySem.Challenge.pw_ta0038_01) (N := 40000) (M := 800) (He := fun P => absHeap (tre P) 28 lifeZ) (H₀ := fun P => absHeap (tr0 P) 28 lifeZ) (ge := #[]) (g₀ := #[]) (de := {}) (d₀ := {}) (ke := 276) (k₀ := 276)
    (fun w => by
      have h := impEnds_of (eO stAt mt rowz w)
      rw [stz_abs] at h
      rw [opn_eq]
      exact h) (by decide) (fun w => funext fun os => by
      rw [fence_eq]
      exact eF stAt mt rowz w os) w
noncomputable def g2 (T M : Nat → Stmt) : List Stmt := [sk1 T M, sk2 T M, sk3 T M, sk4 T M, sk5 T M, sk6 T M, sk7 T M, sk8 T M, sk9 T M, sk10 T M, sk11 T M]
noncomputable def L2 (T M : Nat → Stmt) (Z : Rowz) (R : List Stmt) (w : World) (os : OsState) : Option (Flow × SharedT × Code × Pos) := segRunT treeTable (pv T M R) w 28 (some (.ref 6)) 1 444 (st1 T M Z w os) (piecesOf (g2 T M) env0 (cV T M R) ⟨0, 0, 0, 0⟩ fr0)
noncomputable def R2 (T M : Nat → Stmt) (Z : Rowz) (R : List Stmt) (w : World) (os : OsState) : Option (Flow × SharedT × Code × Pos) := some (.next, st2 T M Z w os, cV T M R, ⟨120, 0, 120, 8⟩)
theorem L2_self : L2 = L2 := rfl
theorem R2_self : R2 = R2 := rfl
name_quick Mine_L2 for Mine.L2 by Mine.L2_self
name_quick Mine_R2 for Mine.R2 by Mine.R2_self
theorem q2 (w : World) (os : OsState) : PySem.W.Fast.Mine_L2 stAt mt rowz R0 w os = PySem.W.Fast.Mine_R2 stAt mt rowz R0 w os := by kernel_rfl!
theorem e2 (w : World) (os : OsState) : L2 stAt mt rowz R0 w os = R2 stAt mt rowz R0 w os := by
  rw [PySem.W.Fast.Mine_L2_eq, PySem.W.Fast.Mine_R2_eq]
  exact q2 w os
theorem p2 (w : World) (os : OsState) : segRunT treeTable PySem.Challenge.pw_ta0038_01 w 28 (some (.ref 6)) 1 444 (st1 stAt mt rowz w os) (piecesOf (g2 stAt mt) env0 cE ⟨0, 0, 0, 0⟩ fr0) = some (.next, st2 stAt mt rowz w os, cE, ⟨120, 0, 120, 8⟩) := by
  have h := e2 w os
  unfold L2 R2 at h
  rw [pv_eq, cV_eq] at h
  exact h
noncomputable def g3 (T M : Nat → Stmt) : List Stmt := [sk12 T M, sk13 T M, sk14 T M, sk15 T M, sk16 T M, sk17 T M, sk18 T M]
noncomputable def L3 (T M : Nat → Stmt) (Z : Rowz) (R : List Stmt) (w : World) (os : OsState) : Option (Flow × SharedT × Code × Pos) := segRunT treeTable (pv T M R) w 28 (some (.ref 6)) 1 523 (st2 T M Z w os) (piecesOf (g3 T M) env0 (cV T M R) ⟨120, 0, 120, 8⟩ fr0)
noncomputable def R3 (T M : Nat → Stmt) (Z : Rowz) (R : List Stmt) (w : World) (os : OsState) : Option (Flow × SharedT × Code × Pos) := some (.next, st3 T M Z w os, cV T M R, ⟨158, 0, 158, 8⟩)
theorem L3_self : L3 = L3 := rfl
theorem R3_self : R3 = R3 := rfl
name_quick Mine_L3 for Mine.L3 by Mine.L3_self
name_quick Mine_R3 for Mine.R3 by Mine.R3_self
theorem q3 (w : World) (os : OsState) : PySem.W.Fast.Mine_L3 stAt mt rowz R0 w os = PySem.W.Fast.Mine_R3 stAt mt rowz R0 w os := by kernel_rfl!
theorem e3 (w : World) (os : OsState) : L3 stAt mt rowz R0 w os = R3 stAt mt rowz R0 w os := by
  rw [PySem.W.Fast.Mine_L3_eq, PySem.W.Fast.Mine_R3_eq]
  exact q3 w os
theorem p3 (w : World) (os : OsState) : segRunT treeTable PySem.Challenge.pw_ta0038_01 w 28 (some (.ref 6)) 1 523 (st2 stAt mt rowz w os) (piecesOf (g3 stAt mt) env0 cE ⟨120, 0, 120, 8⟩ fr0) = some (.next, st3 stAt mt rowz w os, cE, ⟨158, 0, 158, 8⟩) := by
  have h := e3 w os
  unfold L3 R3 at h
  rw [pv_eq, cV_eq] at h
  exact h
noncomputable def g4 (T M : Nat → Stmt) : List Stmt := [sk19 T M]
noncomputable def L4 (T M : Nat → Stmt) (Z : Rowz) (R : List Stmt) (w : World) (os : OsState) : Option (Flow × SharedT × Code × Pos) := segRunT treeTable (pv T M R) w 28 (some (.ref 6)) 1 999 (st3 T M Z w os) (piecesOf (g4 T M) env0 (cV T M R) ⟨158, 0, 158, 8⟩ fr0)
noncomputable def R4 (T M : Nat → Stmt) (Z : Rowz) (R : List Stmt) (w : World) (os : OsState) : Option (Flow × SharedT × Code × Pos) := some (.next, st4 T M Z w os, cV T M R, ⟨159, 0, 159, 6⟩)
theorem L4_self : L4 = L4 := rfl
theorem R4_self : R4 = R4 := rfl
name_quick Mine_L4 for Mine.L4 by Mine.L4_self
name_quick Mine_R4 for Mine.R4 by Mine.R4_self
theorem q4f (w : World) (os : OsState) : PySem.W.Fast.Mine_L4 stAt mt rowz R0 (w.withFollow "special-get-raises" false) os = PySem.W.Fast.Mine_R4 stAt mt rowz R0 (w.withFollow "special-get-raises" false) os := by kernel_rfl!
theorem q4t (w : World) (os : OsState) : PySem.W.Fast.Mine_L4 stAt mt rowz R0 (w.withFollow "special-get-raises" true) os = PySem.W.Fast.Mine_R4 stAt mt rowz R0 (w.withFollow "special-get-raises" true) os := by kernel_rfl!
theorem q4 (w : World) (os : OsState) : PySem.W.Fast.Mine_L4 stAt mt rowz R0 w os = PySem.W.Fast.Mine_R4 stAt mt rowz R0 w os := byRow2 (P := fun w => PySem.W.Fast.Mine_L4 stAt mt rowz R0 w os = PySem.W.Fast.Mine_R4 stAt mt rowz R0 w os) "special-get-raises" (fun w => q4f w os) (fun w => q4t w os) w
theorem e4 (w : World) (os : OsState) : L4 stAt mt rowz R0 w os = R4 stAt mt rowz R0 w os := by
  rw [PySem.W.Fast.Mine_L4_eq, PySem.W.Fast.Mine_R4_eq]
  exact q4 w os
theorem p4 (w : World) (os : OsState) : segRunT treeTable PySem.Challenge.pw_ta0038_01 w 28 (some (.ref 6)) 1 999 (st3 stAt mt rowz w os) (piecesOf (g4 stAt mt) env0 cE ⟨158, 0, 158, 8⟩ fr0) = some (.next, st4 stAt mt rowz w os, cE, ⟨159, 0, 159, 6⟩) := by
  have h := e4 w os
  unfold L4 R4 at h
  rw [pv_eq, cV_eq] at h
  exact h
noncomputable def g5 (T M : Nat → Stmt) : List Stmt := [sk20 T M]
noncomputable def L5 (T M : Nat → Stmt) (Z : Rowz) (R : List Stmt) (w : World) (os : OsState) : Option (Flow × SharedT × Code × Pos) := segRunT treeTable (pv T M R) w 28 (some (.ref 6)) 1 30 (st4 T M Z w os) (piecesOf (g5 T M) env0 (cV T M R) ⟨159, 0, 159, 6⟩ fr0)
noncomputable def R5 (T M : Nat → Stmt) (Z : Rowz) (R : List Stmt) (w : World) (os : OsState) : Option (Flow × SharedT × Code × Pos) := some (.next, st5 T M Z w os, cV T M R, ⟨160, 0, 161, 30⟩)
theorem L5_self : L5 = L5 := rfl
theorem R5_self : R5 = R5 := rfl
name_quick Mine_L5 for Mine.L5 by Mine.L5_self
name_quick Mine_R5 for Mine.R5 by Mine.R5_self
theorem q5 (w : World) (os : OsState) : PySem.W.Fast.Mine_L5 stAt mt rowz R0 w os = PySem.W.Fast.Mine_R5 stAt mt rowz R0 w os := by kernel_rfl!
theorem e5 (w : World) (os : OsState) : L5 stAt mt rowz R0 w os = R5 stAt mt rowz R0 w os := by
  rw [PySem.W.Fast.Mine_L5_eq, PySem.W.Fast.Mine_R5_eq]
  exact q5 w os
theorem p5 (w : World) (os : OsState) : segRunT treeTable PySem.Challenge.pw_ta0038_01 w 28 (some (.ref 6)) 1 30 (st4 stAt mt rowz w os) (piecesOf (g5 stAt mt) env0 cE ⟨159, 0, 159, 6⟩ fr0) = some (.next, st5 stAt mt rowz w os, cE, ⟨160, 0, 161, 30⟩) := by
  have h := e5 w os
  unfold L5 R5 at h
  rw [pv_eq, cV_eq] at h
  exact h
noncomputable def asgD (v : Value) : Sem Flow := do
  let sw ← swappedStores (aTargets (stAt 21)) (aValue (stAt 21)) env0
  assignStores env0 v sw ((assignEach (aTargets (stAt 21)) env0).map (·.2))
noncomputable def nextD (f : Flow) : Sem Flow := match f with
  | .next => execs [] env0
  | f => pure f
noncomputable def restv (v : Value) : Sem Flow := asgD v >>= nextD
noncomputable def itemsX : List DItem := (evalEachOpt (dKeys (stAt 21)) env0).zip ((evalEach (dVals (stAt 21)) env0).map fun v => do let x ← v; standAt (dPos (stAt 21)); pure x)
noncomputable def loopD : Sem (Option Addr × List (Sem Value × Sem Value)) := forIn (rowz.map (itemOf (dPos (stAt 21)))) ((none, []) : Option Addr × List (Sem Value × Sem Value)) dispBody
theorem exec_t1 : exec (stAt 21) env0 = (standAt (aPos (stAt 21)) >>= fun _ => eval (aValue (stAt 21)) env0 >>= asgD) := by kernel_rfl!
theorem exec_t2 : eval (aValue (stAt 21)) env0 = (standAt (dPos (stAt 21)) >>= fun _ => dictDisplay itemsX) := by kernel_rfl!
theorem exec_t3 : itemsX = rowz.map (itemOf (dPos (stAt 21))) := by kernel_rfl!
theorem exec_t4 : execs [stAt 21] env0 = (exec (stAt 21) env0 >>= nextD) := by
  unfold execs
  exact bind_congr fun f => by cases f <;> rfl
theorem exec_dict : execs [stAt 21] env0 = ((standAt (aPos (stAt 21)) >>= fun _ => standAt (dPos (stAt 21)) >>= fun _ => loopD >>= dispEnd) >>= restv) := by
  rw [exec_t4, exec_t1, exec_t2, exec_t3, display_eq]
  simp only [bind_assoc]
  rfl
noncomputable def chunks : Nat → Rowz → List Rowz
  | 0, _ => []
  | n + 1, l => l.take 17 :: chunks n (l.drop 17)
theorem rowz_parts : rowz = rowz.take 17 ++ (chunks 37 (rowz.drop 17)).flatten ++ rowz.drop 646 := by kernel_rfl!
theorem rowz_left : rowz.take 17 ++ (chunks 37 (rowz.drop 17)).flatten = rowz.take 646 := by kernel_rfl!
theorem rowz_good : Good rowz := (good_of rowz (-1) (by kernel_rfl!) (by (first | lia | omega))).1
theorem rowz_chunks : ∀ c ∈ chunks 37 (rowz.drop 17), c.length = 17 := fun c hc => by
  have h : (chunks 37 (rowz.drop 17)).all (fun c => c.length == 17) = true := by kernel_rfl!
  exact beq_iff_eq.mp (List.all_eq_true.mp h c hc)
theorem rowz_len : (rowz.take 17).length = 17 := by kernel_rfl!
theorem rowz_len' : (rowz.drop 646).length = 4 := by kernel_rfl!
theorem rowz_len2 : (rowz.take 646).length = 646 := by kernel_rfl!
theorem chunks_len : ∀ (n : Nat) (l : Rowz), (chunks n l).length = n
  | 0, _ => rfl
  | n + 1, l => by simp [chunks, chunks_len n]
theorem heap_m (P : Params) : absHeap (trm stAt mt rowz P) 212 lifeZ = mkH ((tr5 stAt mt rowz P).list 173) (dictOf (ents 569 (rowz.take 646) ++ entsE 2507 (rowz.drop 646)) 650) (subs 620 (chunks 37 (rowz.drop 17)) ++ [dictOf (entsE 2507 (rowz.drop 646)) 4]) := by kernel_rfl!
theorem ex_dict (w : World) (os : OsState) (p : Pos) : ExB w 13500 (standAt (aPos (stAt 21)) >>= fun _ => standAt (dPos (stAt 21)) >>= fun _ => loopD >>= dispEnd) p (st5 stAt mt rowz w os).abs
    (.ref 173) (dPos (stAt 21)) (stm stAt mt rowz w os).abs := by
  have hL : ((tr5 stAt mt rowz w.params).list 173).length = 173 := by simp [BT.list]
  have hg : Good (rowz.take 17 ++ (chunks 37 (rowz.drop 17)).flatten ++ rowz.drop 646) := rowz_parts ▸ rowz_good
  have z := ex_display (w := w) (p := dPos (stAt 21)) (q := dPos (stAt 21)) (L := (tr5 stAt mt rowz w.params).list 173) (g := #[]) (dr := {}) (tk := 569) (os := os) (c0 := rowz.take 17) (cs := chunks 37 (rowz.drop 17)) (last := rowz.drop 646)
    hg rowz_len rowz_chunks (by rw [rowz_len']; decide) (by rw [chunks_len]; decide) (by rw [hL]; decide)
  rw [← rowz_parts, rowz_left, chunks_len, hL] at z
  have y := ex_flush3 (w := w) (p := dPos (stAt 21)) (q := dPos (stAt 21)) (L := (tr5 stAt mt rowz w.params).list 173) (R := subs 620 (chunks 37 (rowz.drop 17))) (g := #[]) (dr := {}) (tk := 2507) (os := os) (c := rowz.drop 646) (es := ents 569 (rowz.take 646)) (n := 646)
    hg.right (by rw [rowz_len']; decide) (by rw [rowz_len']; decide) (by rw [rowz_len', ents_length, rowz_len2]; decide) (by
      intro e
      have := ents_length 569 (rowz.take 646)
      rw [e, rowz_len2] at this
      simp at this) (fun e he y hy => by
      obtain ⟨x, hx, e1⟩ := ents_mem he
      rw [e1]; exact hg.apart x (by rw [rowz_left]; exact hx) y hy) (by rw [hL]; decide)
  rw [rowz_len', hL] at y
  have e1 : (stm stAt mt rowz w os).abs = ⟨mkH ((tr5 stAt mt rowz w.params).list 173) (dictOf (ents 569 (rowz.take 646) ++ entsE 2507 (rowz.drop 646)) 650) (subs 620 (chunks 37 (rowz.drop 17)) ++ [dictOf (entsE 2507 (rowz.drop 646)) 4]), #[], {}, 2519, os⟩ := by
    show (⟨absHeap (trm stAt mt rowz w.params) 212 lifeZ, #[], {}, 2519, os⟩ : Shared) = _
    rw [heap_m]
  rw [e1]
  exact ex_le (ex_bind (N := 1) (M := 230 + 350 * 37 + 310 + 1) ex_at (ex_le (ex_bind (N := 1) (M := 230 + 350 * 37 + 310) ex_at (ex_bind z y)) (by decide))) (by decide)

noncomputable def asgW (x : Expr) (v : Value) : Sem Flow := do
  let sw ← swappedStores tg21 x env0
  assignStores env0 v sw ((assignEach tg21 env0).map (·.2))
noncomputable def restw (x : Expr) (v : Value) : Sem Flow := asgW x v >>= nextD
theorem restw_eq : restw (aValue (stAt 21)) = restv := by kernel_rfl!
noncomputable def L6 (T M : Nat → Stmt) (Z : Rowz) (R : List Stmt) (w : World) (os : OsState) (K : List (Option Expr)) (U : List Expr) (q0 : Pos) (q : Pos) : Option (Flow × SharedT × Code × Pos) := segRunT treeTable (pv T M R) w 28 (some (.ref 6)) 1 40 (stm T M Z w os) ⟨(restw (.Dict K U q0) (.ref 173)).wrap doneF deadEnd id id, cV T M R, q, fr0⟩
noncomputable def R6 (T M : Nat → Stmt) (Z : Rowz) (R : List Stmt) (w : World) (os : OsState) (K : List (Option Expr)) (U : List Expr) (q0 : Pos) (q : Pos) : Option (Flow × SharedT × Code × Pos) := some (.next, st6 T M Z w os, cV T M R, ⟨162, 0, 162, 13⟩)
theorem L6_self : L6 = L6 := rfl
theorem R6_self : R6 = R6 := rfl
name_quick Mine_L6 for Mine.L6 by Mine.L6_self
name_quick Mine_R6 for Mine.R6 by Mine.R6_self
theorem q6 (T M : Nat → Stmt) (Z : Rowz) (R : List Stmt) (w : World) (os : OsState) (K : List (Option Expr)) (U : List Expr) (q0 : Pos) (q : Pos) : PySem.W.Fast.Mine_L6 T M Z R w os K U q0 q = PySem.W.Fast.Mine_R6 T M Z R w os K U q0 q := by kernel_rfl!
theorem e6 (T M : Nat → Stmt) (Z : Rowz) (R : List Stmt) (w : World) (os : OsState) (K : List (Option Expr)) (U : List Expr) (q0 : Pos) (q : Pos) : L6 T M Z R w os K U q0 q = R6 T M Z R w os K U q0 q := by
  rw [PySem.W.Fast.Mine_L6_eq, PySem.W.Fast.Mine_R6_eq]
  exact q6 T M Z R w os K U q0 q
theorem val_eq : aValue (stAt 21) = .Dict (dKeys (stAt 21)) (dVals (stAt 21)) (dPos (stAt 21)) := by kernel_rfl!
theorem p6 (w : World) (os : OsState) : segRunT treeTable PySem.Challenge.pw_ta0038_01 w 28 (some (.ref 6)) 1 40 (stm stAt mt rowz w os) ⟨(restv (.ref 173)).wrap doneF deadEnd id id, cE, dPos (stAt 21), fr0⟩ = some (.next, st6 stAt mt rowz w os, cE, ⟨162, 0, 162, 13⟩) := by
  have h := e6 stAt mt rowz R0 w os (dKeys (stAt 21)) (dVals (stAt 21)) (dPos (stAt 21)) (dPos (stAt 21))
  unfold L6 R6 at h
  rw [pv_eq, cV_eq, ← val_eq, restw_eq] at h
  exact h
noncomputable def g6 : List Stmt := [stAt 21]
theorem p6' (w : World) (os : OsState) : segRun treeTable PySem.Challenge.pw_ta0038_01 w 28 (some (.ref 6)) 1 13540 (st5 stAt mt rowz w os).abs (piecesOf g6 env0 cE ⟨160, 0, 161, 30⟩ fr0) = some (.next, (st6 stAt mt rowz w os).abs, cE, ⟨162, 0, 162, 13⟩) := by
  have z := run_bind (K := doneF) (H := deadEnd) (gd := id) (lv := id) (f := restv) (ex_dict w os ⟨160, 0, 161, 30⟩) (segRun_of (p6 w os))
  rw [← exec_dict] at z
  exact z
noncomputable def g7 (T M : Nat → Stmt) : List Stmt := [sk22 T M, sk23 T M, sk24 T M, sk25 T M, sk26 T M, sk27 T M, sk28 T M, sk29 T M]
noncomputable def L7 (T M : Nat → Stmt) (Z : Rowz) (R : List Stmt) (w : World) (os : OsState) : Option (Flow × SharedT × Code × Pos) := segRunT treeTable (pv T M R) w 28 (some (.ref 6)) 1 228 (st6 T M Z w os) (piecesOf (g7 T M) env0 (cV T M R) ⟨162, 0, 162, 13⟩ fr0)
noncomputable def R7 (T M : Nat → Stmt) (Z : Rowz) (R : List Stmt) (w : World) (os : OsState) : Option (Flow × SharedT × Code × Pos) := some (.next, st7 T M Z w os, cV T M R, ⟨220, 0, 248, 15⟩)
theorem L7_self : L7 = L7 := rfl
theorem R7_self : R7 = R7 := rfl
name_quick Mine_L7 for Mine.L7 by Mine.L7_self
name_quick Mine_R7 for Mine.R7 by Mine.R7_self
theorem q7 (w : World) (os : OsState) : PySem.W.Fast.Mine_L7 stAt mt rowz R0 w os = PySem.W.Fast.Mine_R7 stAt mt rowz R0 w os := by kernel_rfl!
theorem e7 (w : World) (os : OsState) : L7 stAt mt rowz R0 w os = R7 stAt mt rowz R0 w os := by
  rw [PySem.W.Fast.Mine_L7_eq, PySem.W.Fast.Mine_R7_eq]
  exact q7 w os
theorem p7 (w : World) (os : OsState) : segRunT treeTable PySem.Challenge.pw_ta0038_01 w 28 (some (.ref 6)) 1 228 (st6 stAt mt rowz w os) (piecesOf (g7 stAt mt) env0 cE ⟨162, 0, 162, 13⟩ fr0) = some (.next, st7 stAt mt rowz w os, cE, ⟨220, 0, 248, 15⟩) := by
  have h := e7 w os
  unfold L7 R7 at h
  rw [pv_eq, cV_eq] at h
  exact h

noncomputable def Lp (T M : Nat → Stmt) (Z : Rowz) (R : List Stmt) (w : World) (os : OsState) : Option (Shared × Thread) := topGo treeTable (pv T M R) w 28 (some (.ref 6)) 12 (st0 T M Z w os).abs (topStub (pv T M R))
noncomputable def Rp (T M : Nat → Stmt) (Z : Rowz) (R : List Stmt) (w : World) (os : OsState) : Option (Shared × Thread) := some ((st1 T M Z w os).abs, ⟨denote treeTable (cV T M R), cV T M R, ⟨0, 0, 0, 0⟩, fr0⟩)
theorem Lp_self : Lp = Lp := rfl
theorem Rp_self : Rp = Rp := rfl
name_quick Mine_Lp for Mine.Lp by Mine.Lp_self
name_quick Mine_Rp for Mine.Rp by Mine.Rp_self
theorem qp (T M : Nat → Stmt) (Z : Rowz) (R : List Stmt) (w : World) (os : OsState) : PySem.W.Fast.Mine_Lp T M Z R w os = PySem.W.Fast.Mine_Rp T M Z R w os := by kernel_rfl!
theorem ep (T M : Nat → Stmt) (Z : Rowz) (R : List Stmt) (w : World) (os : OsState) : Lp T M Z R w os = Rp T M Z R w os := by
  rw [PySem.W.Fast.Mine_Lp_eq, PySem.W.Fast.Mine_Rp_eq]
  exact qp T M Z R w os
theorem pp (w : World) (os : OsState) : topGo treeTable PySem.Challenge.pw_ta0038_01 w 28 (some (.ref 6)) 12 (st0 stAt mt rowz w os).abs (topStub PySem.Challenge.pw_ta0038_01) = some ((st1 stAt mt rowz w os).abs, ⟨denote treeTable cE, cE, ⟨0, 0, 0, 0⟩, fr0⟩) := by
  have h := ep stAt mt rowz R0 w os
  unfold Lp Rp at h
  rw [pv_eq, cV_eq] at h
  exact h
theorem pb (w : World) (os : OsState) : segRun treeTable PySem.Challenge.pw_ta0038_01 w 28 (some (.ref 6)) 1 1 (st1 stAt mt rowz w os).abs (blockOf (behindTheImports PySem.Challenge.pw_ta0038_01) env0 cE ⟨0, 0, 0, 0⟩ fr0) = some (.next, (st1 stAt mt rowz w os).abs, cE, ⟨0, 0, 0, 0⟩) := by kernel_rfl!
theorem pz (w : World) (os : OsState) : topRun treeTable PySem.Challenge.pw_ta0038_01 w 28 (some (.ref 6)) 2 (st7 stAt mt rowz w os).abs ⟨doneF .next, cE, ⟨220, 0, 248, 15⟩, fr0⟩ = some (st7 stAt mt rowz w os).abs := by kernel_rfl!
theorem body_is : behindTheImports PySem.Challenge.pw_ta0038_01 = g2 stAt mt ++ (g3 stAt mt ++ (g4 stAt mt ++ (g5 stAt mt ++ (g6 ++ (g7 stAt mt ++ []))))) := by kernel_rfl!
noncomputable def MM : Nat := 12 + (1 + (444 + (523 + (999 + (30 + (13540 + (228 + (2))))))))
theorem runs (w : World) (os : OsState) : topRun treeTable PySem.Challenge.pw_ta0038_01 w 28 (some (.ref 6)) MM (st0 stAt mt rowz w os).abs (topStub PySem.Challenge.pw_ta0038_01) = some (st7 stAt mt rowz w os).abs := by
  refine go_top (pp w os) ?_
  refine piece_block (pb w os) ?_
  rw [body_is]
  refine piece_app (segRun_of (p2 w os)) ?_
  refine piece_app (segRun_of (p3 w os)) ?_
  refine piece_app (segRun_of (p4 w os)) ?_
  refine piece_app (segRun_of (p5 w os)) ?_
  refine piece_app (p6' w os) ?_
  refine piece_app (segRun_of (p7 w os)) ?_
  exact piece_nil (pz w os)
noncomputable def qv : Program := { PySem.Challenge.pw_ta0038_01 with main := { PySem.Challenge.pw_ta0038_01.main with body := [stAt 0, stAt 29] } }
noncomputable def qk (T M : Nat → Stmt) : Program := ⟨⟨[sk0, sk29 T M], msc, mfu, mfi, []⟩, [], [], [], [], gvn⟩
theorem qk_eq : qk stAt mt = qv := by kernel_rfl!
noncomputable def loosez : List Str := PySem.Challenge.pw_ta0038_01.boundNames.filter fun n => !(n == ("law" : Str) || n == ("_sre" : Str))
noncomputable def loosek : List Str := opn.boundNames.filter fun n => !(n == ("law" : Str) || n == ("_sre" : Str))
theorem loose_eq : loosez = loosek := by
  have h : PySem.Challenge.pw_ta0038_01.boundNames = opn.boundNames := by kernel_rfl!
  unfold loosez loosek
  rw [h]
noncomputable def H0 (P : Params) : Heap := absHeap (tr0 P) 28 lifeZ
noncomputable def HV (T M : Nat → Stmt) (Z : Rowz) (P : Params) : Heap := absHeap (tr7 T M Z P) 259 lifeZ
noncomputable def H7 (P : Params) : Heap := absHeap (tr7 stAt mt rowz P) 259 lifeZ
noncomputable def LS (w : World) : Bool × Nat × Option Value := ((H0 w.params).isNs mainGlobals && (#[] : Array GenState).size == 0, (H0 w.params).objs.size, (H0 w.params).nsMap mainGlobals "__annotations__")
noncomputable def RS (w : World) : Bool × Nat × Option Value := (true, 28, some (.ref 6))
theorem LS_self : LS = LS := rfl
name_quick Mine_LS for Mine.LS by Mine.LS_self
theorem qS (w : World) : PySem.W.Fast.Mine_LS w = RS w := by kernel_rfl!
theorem pS (w : World) : LS w = RS w := (congrFun PySem.W.Fast.Mine_LS_eq w).trans (qS w)
noncomputable def K1 (T M : Nat → Stmt) (Z : Rowz) (w : World) (os : OsState) : Bool := staticsOk (importedModules opn.main.body) (H0 w.params) (HV T M Z w.params) && namesBound opn (HV T M Z w.params) && gensDone ⟨HV T M Z w.params, #[], {}, 2588, os⟩ && laidKept (H0 w.params) (HV T M Z w.params)
theorem K1_self : K1 = K1 := rfl
name_quick Mine_K1 for Mine.K1 by Mine.K1_self
theorem qK1 (T M : Nat → Stmt) (Z : Rowz) (w : World) (os : OsState) : PySem.W.Fast.Mine_K1 T M Z w os = true := by kernel_rfl!
theorem eK1 (T M : Nat → Stmt) (Z : Rowz) (w : World) (os : OsState) : K1 T M Z w os = true := by
  rw [PySem.W.Fast.Mine_K1_eq]
  exact qK1 T M Z w os
theorem bound_eq (h : Heap) : namesBound PySem.Challenge.pw_ta0038_01 h = namesBound opn h := by
  have e : PySem.Challenge.pw_ta0038_01.boundNames = opn.boundNames := by kernel_rfl!
  unfold namesBound
  rw [e]
theorem pK1 (w : World) (os : OsState) : (staticsOk (importedModules PySem.Challenge.pw_ta0038_01.main.body) (H0 w.params) (H7 w.params) && namesBound PySem.Challenge.pw_ta0038_01 (H7 w.params) && gensDone ⟨H7 w.params, #[], {}, 2588, os⟩ && laidKept (H0 w.params) (H7 w.params)) = true := by
  rw [mods_eq, bound_eq]
  exact eK1 stAt mt rowz w os
noncomputable def LK (T M : Nat → Stmt) (Z : Rowz) (w : World) (os : OsState) := openSeen (qk T M) loosek (importedModules opn.main.body) (fun _ => true) true ⟨HV T M Z w.params, #[], {}, 2588, os⟩
noncomputable def RK (T M : Nat → Stmt) (Z : Rowz) (w : World) (os : OsState) := openGood (qk T M) loosek
theorem LK_self : LK = LK := rfl
theorem RK_self : RK = RK := rfl
name_quick Mine_LK for Mine.LK by Mine.LK_self
name_quick Mine_RK for Mine.RK by Mine.RK_self
theorem qK (T M : Nat → Stmt) (Z : Rowz) (w : World) (os : OsState) : PySem.W.Fast.Mine_LK T M Z w os = PySem.W.Fast.Mine_RK T M Z w os := by kernel_rfl!
theorem eK (T M : Nat → Stmt) (Z : Rowz) (w : World) (os : OsState) : LK T M Z w os = RK T M Z w os := by
  rw [PySem.W.Fast.Mine_LK_eq, PySem.W.Fast.Mine_RK_eq]
  exact qK T M Z w os
theorem pK (w : World) (os : OsState) : openSeen qv loosez (importedModules PySem.Challenge.pw_ta0038_01.main.body) (fun _ => true) true ⟨H7 w.params, #[], {}, 2588, os⟩ = openGood qv loosez := by
  rw [mods_eq, loose_eq, ← qk_eq]
  exact eK stAt mt rowz w os
theorem leftO : LeftO PySem.Challenge.pw_ta0038_01 qv loosez (fun _ => true) (fun s => s.heap) (fun w => H7 w.params) 40000 :=
  LeftO.of_pieces (H₀ := H0) (H₁ := H7) (gs₀ := #[]) (gs₁ := #[]) (d₀ := {}) (d₁ := {}) (k₀ := 276) (k₁ := 2588) (m₀ := 28) (ann := some (.ref 6)) (M := MM) opens (fun w => pS w) (fun w os => runs w os) (by decide)
    (fun w => funext fun os => by
      show ((staticsOk (importedModules PySem.Challenge.pw_ta0038_01.main.body) (H0 w.params) (H7 w.params) && namesBound PySem.Challenge.pw_ta0038_01 (H7 w.params) && gensDone ⟨H7 w.params, #[], {}, 2588, os⟩ && laidKept (H0 w.params) (H7 w.params)), openSeen qv loosez (importedModules PySem.Challenge.pw_ta0038_01.main.body) (fun _ => true) true ⟨H7 w.params, #[], {}, 2588, os⟩, H7 w.params) = (true, openGood qv loosez, H7 w.params)
      rw [pK1, pK])
end Mine
end P_HeadT
section P_HeadG
open PySem PySem.W PySem.Calls PyProof.Rows
set_option linter.unusedVariables false
set_option maxRecDepth 100000
namespace Mine
noncomputable def fb1_0 : Stmt := by
  refine (?g : ∀ x, (fnBody (stAt 1))[0]? = some x → Stmt) _ rfl
  exact fun x _ => x
noncomputable def fl1 : Stmt := by
  refine (?g : ∀ n a b d r tp sc dk bi p, stAt 1 = Stmt.FunctionDef n a b d r tp sc dk bi p → Stmt) _ _ _ _ _ _ _ _ _ _ rfl
  exact fun n a b d r tp sc dk bi p _ => Stmt.FunctionDef n ar1 [fb1_0] d r tp sc1 dk bi p
noncomputable def fb4_0 : Stmt := by
  refine (?g : ∀ x, (fnBody (stAt 4))[0]? = some x → Stmt) _ rfl
  exact fun x _ => x
noncomputable def fb4_1 : Stmt := by
  refine (?g : ∀ x, (fnBody (stAt 4))[1]? = some x → Stmt) _ rfl
  exact fun x _ => x
noncomputable def fb4_2 : Stmt := by
  refine (?g : ∀ x, (fnBody (stAt 4))[2]? = some x → Stmt) _ rfl
  exact fun x _ => x
noncomputable def fb4_3 : Stmt := by
  refine (?g : ∀ x, (fnBody (stAt 4))[3]? = some x → Stmt) _ rfl
  exact fun x _ => x
noncomputable def fb4_4 : Stmt := by
  refine (?g : ∀ x, (fnBody (stAt 4))[4]? = some x → Stmt) _ rfl
  exact fun x _ => x
noncomputable def fl4 : Stmt := by
  refine (?g : ∀ n a b d r tp sc dk bi p, stAt 4 = Stmt.FunctionDef n a b d r tp sc dk bi p → Stmt) _ _ _ _ _ _ _ _ _ _ rfl
  exact fun n a b d r tp sc dk bi p _ => Stmt.FunctionDef n ar4 [fb4_0, fb4_1, fb4_2, fb4_3, fb4_4] d r tp sc4 dk bi p
noncomputable def fb5_0 : Stmt := by
  refine (?g : ∀ x, (fnBody (stAt 5))[0]? = some x → Stmt) _ rfl
  exact fun x _ => x
noncomputable def fb5_1 : Stmt := by
  refine (?g : ∀ x, (fnBody (stAt 5))[1]? = some x → Stmt) _ rfl
  exact fun x _ => x
noncomputable def fb5_2 : Stmt := by
  refine (?g : ∀ x, (fnBody (stAt 5))[2]? = some x → Stmt) _ rfl
  exact fun x _ => x
noncomputable def fb5_3 : Stmt := by
  refine (?g : ∀ x, (fnBody (stAt 5))[3]? = some x → Stmt) _ rfl
  exact fun x _ => x
noncomputable def fl5 : Stmt := by
  refine (?g : ∀ n a b d r tp sc dk bi p, stAt 5 = Stmt.FunctionDef n a b d r tp sc dk bi p → Stmt) _ _ _ _ _ _ _ _ _ _ rfl
  exact fun n a b d r tp sc dk bi p _ => Stmt.FunctionDef n ar5 [fb5_0, fb5_1, fb5_2, fb5_3] d r tp sc5 dk bi p
noncomputable def fb6_0 : Stmt := by
  refine (?g : ∀ x, (fnBody (stAt 6))[0]? = some x → Stmt) _ rfl
  exact fun x _ => x
noncomputable def fb6_1 : Stmt := by
  refine (?g : ∀ x, (fnBody (stAt 6))[1]? = some x → Stmt) _ rfl
  exact fun x _ => x
noncomputable def fb6_2 : Stmt := by
  refine (?g : ∀ x, (fnBody (stAt 6))[2]? = some x → Stmt) _ rfl
  exact fun x _ => x
noncomputable def fl6 : Stmt := by
  refine (?g : ∀ n a b d r tp sc dk bi p, stAt 6 = Stmt.FunctionDef n a b d r tp sc dk bi p → Stmt) _ _ _ _ _ _ _ _ _ _ rfl
  exact fun n a b d r tp sc dk bi p _ => Stmt.FunctionDef n ar6 [fb6_0, fb6_1, fb6_2] d r tp sc6 dk bi p
noncomputable def fb8_0 : Stmt := by
  refine (?g : ∀ x, (fnBody (stAt 8))[0]? = some x → Stmt) _ rfl
  exact fun x _ => x
noncomputable def fb8_1 : Stmt := by
  refine (?g : ∀ x, (fnBody (stAt 8))[1]? = some x → Stmt) _ rfl
  exact fun x _ => x
noncomputable def fb8_2 : Stmt := by
  refine (?g : ∀ x, (fnBody (stAt 8))[2]? = some x → Stmt) _ rfl
  exact fun x _ => x
noncomputable def fb8_3 : Stmt := by
  refine (?g : ∀ x, (fnBody (stAt 8))[3]? = some x → Stmt) _ rfl
  exact fun x _ => x
noncomputable def fb8_4 : Stmt := by
  refine (?g : ∀ x, (fnBody (stAt 8))[4]? = some x → Stmt) _ rfl
  exact fun x _ => x
noncomputable def fb8_5 : Stmt := by
  refine (?g : ∀ x, (fnBody (stAt 8))[5]? = some x → Stmt) _ rfl
  exact fun x _ => x
noncomputable def fl8 : Stmt := by
  refine (?g : ∀ n a b d r tp sc dk bi p, stAt 8 = Stmt.FunctionDef n a b d r tp sc dk bi p → Stmt) _ _ _ _ _ _ _ _ _ _ rfl
  exact fun n a b d r tp sc dk bi p _ => Stmt.FunctionDef n ar8 [fb8_0, fb8_1, fb8_2, fb8_3, fb8_4, fb8_5] d r tp sc8 dk bi p
noncomputable def fb9_0 : Stmt := by
  refine (?g : ∀ x, (fnBody (stAt 9))[0]? = some x → Stmt) _ rfl
  exact fun x _ => x
noncomputable def fb9_1 : Stmt := by
  refine (?g : ∀ x, (fnBody (stAt 9))[1]? = some x → Stmt) _ rfl
  exact fun x _ => x
noncomputable def fb9_2 : Stmt := by
  refine (?g : ∀ x, (fnBody (stAt 9))[2]? = some x → Stmt) _ rfl
  exact fun x _ => x
noncomputable def fb9_3 : Stmt := by
  refine (?g : ∀ x, (fnBody (stAt 9))[3]? = some x → Stmt) _ rfl
  exact fun x _ => x
noncomputable def fb9_4 : Stmt := by
  refine (?g : ∀ x, (fnBody (stAt 9))[4]? = some x → Stmt) _ rfl
  exact fun x _ => x
noncomputable def fb9_5 : Stmt := by
  refine (?g : ∀ x, (fnBody (stAt 9))[5]? = some x → Stmt) _ rfl
  exact fun x _ => x
noncomputable def fb9_6 : Stmt := by
  refine (?g : ∀ x, (fnBody (stAt 9))[6]? = some x → Stmt) _ rfl
  exact fun x _ => x
noncomputable def fb9_7 : Stmt := by
  refine (?g : ∀ x, (fnBody (stAt 9))[7]? = some x → Stmt) _ rfl
  exact fun x _ => x
noncomputable def fb9_8 : Stmt := by
  refine (?g : ∀ x, (fnBody (stAt 9))[8]? = some x → Stmt) _ rfl
  exact fun x _ => x
noncomputable def fb9_9 : Stmt := by
  refine (?g : ∀ x, (fnBody (stAt 9))[9]? = some x → Stmt) _ rfl
  exact fun x _ => x
noncomputable def fb9_10 : Stmt := by
  refine (?g : ∀ x, (fnBody (stAt 9))[10]? = some x → Stmt) _ rfl
  exact fun x _ => x
noncomputable def fl9 : Stmt := by
  refine (?g : ∀ n a b d r tp sc dk bi p, stAt 9 = Stmt.FunctionDef n a b d r tp sc dk bi p → Stmt) _ _ _ _ _ _ _ _ _ _ rfl
  exact fun n a b d r tp sc dk bi p _ => Stmt.FunctionDef n ar9 [fb9_0, fb9_1, fb9_2, fb9_3, fb9_4, fb9_5, fb9_6, fb9_7, fb9_8, fb9_9, fb9_10] d r tp sc9 dk bi p
noncomputable def fb10_0 : Stmt := by
  refine (?g : ∀ x, (fnBody (stAt 10))[0]? = some x → Stmt) _ rfl
  exact fun x _ => x
noncomputable def fb10_1 : Stmt := by
  refine (?g : ∀ x, (fnBody (stAt 10))[1]? = some x → Stmt) _ rfl
  exact fun x _ => x
noncomputable def fb10_2 : Stmt := by
  refine (?g : ∀ x, (fnBody (stAt 10))[2]? = some x → Stmt) _ rfl
  exact fun x _ => x
noncomputable def fb10_3 : Stmt := by
  refine (?g : ∀ x, (fnBody (stAt 10))[3]? = some x → Stmt) _ rfl
  exact fun x _ => x
noncomputable def fb10_4 : Stmt := by
  refine (?g : ∀ x, (fnBody (stAt 10))[4]? = some x → Stmt) _ rfl
  exact fun x _ => x
noncomputable def fb10_5 : Stmt := by
  refine (?g : ∀ x, (fnBody (stAt 10))[5]? = some x → Stmt) _ rfl
  exact fun x _ => x
noncomputable def fb10_6 : Stmt := by
  refine (?g : ∀ x, (fnBody (stAt 10))[6]? = some x → Stmt) _ rfl
  exact fun x _ => x
noncomputable def fb10_7 : Stmt := by
  refine (?g : ∀ x, (fnBody (stAt 10))[7]? = some x → Stmt) _ rfl
  exact fun x _ => x
noncomputable def fb10_8 : Stmt := by
  refine (?g : ∀ x, (fnBody (stAt 10))[8]? = some x → Stmt) _ rfl
  exact fun x _ => x
noncomputable def fl10 : Stmt := by
  refine (?g : ∀ n a b d r tp sc dk bi p, stAt 10 = Stmt.FunctionDef n a b d r tp sc dk bi p → Stmt) _ _ _ _ _ _ _ _ _ _ rfl
  exact fun n a b d r tp sc dk bi p _ => Stmt.FunctionDef n ar10 [fb10_0, fb10_1, fb10_2, fb10_3, fb10_4, fb10_5, fb10_6, fb10_7, fb10_8] d r tp sc10 dk bi p
noncomputable def fb17_0 : Stmt := by
  refine (?g : ∀ x, (fnBody (stAt 17))[0]? = some x → Stmt) _ rfl
  exact fun x _ => x
noncomputable def fl17 : Stmt := by
  refine (?g : ∀ n a b d r tp sc dk bi p, stAt 17 = Stmt.FunctionDef n a b d r tp sc dk bi p → Stmt) _ _ _ _ _ _ _ _ _ _ rfl
  exact fun n a b d r tp sc dk bi p _ => Stmt.FunctionDef n ar17 [fb17_0] d r tp sc17 dk bi p
noncomputable def fb20_0 : Stmt := by
  refine (?g : ∀ x, (fnBody (stAt 20))[0]? = some x → Stmt) _ rfl
  exact fun x _ => x
noncomputable def fl20 : Stmt := by
  refine (?g : ∀ n a b d r tp sc dk bi p, stAt 20 = Stmt.FunctionDef n a b d r tp sc dk bi p → Stmt) _ _ _ _ _ _ _ _ _ _ rfl
  exact fun n a b d r tp sc dk bi p _ => Stmt.FunctionDef n ar20 [fb20_0] d r tp sc20 dk bi p
noncomputable def fb22_0 : Stmt := by
  refine (?g : ∀ x, (fnBody (stAt 22))[0]? = some x → Stmt) _ rfl
  exact fun x _ => x
noncomputable def fb22_1 : Stmt := by
  refine (?g : ∀ x, (fnBody (stAt 22))[1]? = some x → Stmt) _ rfl
  exact fun x _ => x
noncomputable def fb22_2 : Stmt := by
  refine (?g : ∀ x, (fnBody (stAt 22))[2]? = some x → Stmt) _ rfl
  exact fun x _ => x
noncomputable def fl22 : Stmt := by
  refine (?g : ∀ n a b d r tp sc dk bi p, stAt 22 = Stmt.FunctionDef n a b d r tp sc dk bi p → Stmt) _ _ _ _ _ _ _ _ _ _ rfl
  exact fun n a b d r tp sc dk bi p _ => Stmt.FunctionDef n ar22 [fb22_0, fb22_1, fb22_2] d r tp sc22 dk bi p
noncomputable def fb24_0 : Stmt := by
  refine (?g : ∀ x, (fnBody (stAt 24))[0]? = some x → Stmt) _ rfl
  exact fun x _ => x
noncomputable def fb24_1 : Stmt := by
  refine (?g : ∀ x, (fnBody (stAt 24))[1]? = some x → Stmt) _ rfl
  exact fun x _ => x
noncomputable def fb24_2 : Stmt := by
  refine (?g : ∀ x, (fnBody (stAt 24))[2]? = some x → Stmt) _ rfl
  exact fun x _ => x
noncomputable def fb24_3 : Stmt := by
  refine (?g : ∀ x, (fnBody (stAt 24))[3]? = some x → Stmt) _ rfl
  exact fun x _ => x
noncomputable def fb24_4 : Stmt := by
  refine (?g : ∀ x, (fnBody (stAt 24))[4]? = some x → Stmt) _ rfl
  exact fun x _ => x
noncomputable def fb24_5 : Stmt := by
  refine (?g : ∀ x, (fnBody (stAt 24))[5]? = some x → Stmt) _ rfl
  exact fun x _ => x
noncomputable def fb24_6 : Stmt := by
  refine (?g : ∀ x, (fnBody (stAt 24))[6]? = some x → Stmt) _ rfl
  exact fun x _ => x
noncomputable def fb24_7 : Stmt := by
  refine (?g : ∀ x, (fnBody (stAt 24))[7]? = some x → Stmt) _ rfl
  exact fun x _ => x
noncomputable def fb24_8 : Stmt := by
  refine (?g : ∀ x, (fnBody (stAt 24))[8]? = some x → Stmt) _ rfl
  exact fun x _ => x
noncomputable def fb24_9 : Stmt := by
  refine (?g : ∀ x, (fnBody (stAt 24))[9]? = some x → Stmt) _ rfl
  exact fun x _ => x
noncomputable def fl24 : Stmt := by
  refine (?g : ∀ n a b d r tp sc dk bi p, stAt 24 = Stmt.FunctionDef n a b d r tp sc dk bi p → Stmt) _ _ _ _ _ _ _ _ _ _ rfl
  exact fun n a b d r tp sc dk bi p _ => Stmt.FunctionDef n ar24 [fb24_0, fb24_1, fb24_2, fb24_3, fb24_4, fb24_5, fb24_6, fb24_7, fb24_8, fb24_9] d r tp sc24 dk bi p
noncomputable def fb25_0 : Stmt := by
  refine (?g : ∀ x, (fnBody (stAt 25))[0]? = some x → Stmt) _ rfl
  exact fun x _ => x
noncomputable def fb25_1 : Stmt := by
  refine (?g : ∀ x, (fnBody (stAt 25))[1]? = some x → Stmt) _ rfl
  exact fun x _ => x
noncomputable def fb25_2 : Stmt := by
  refine (?g : ∀ x, (fnBody (stAt 25))[2]? = some x → Stmt) _ rfl
  exact fun x _ => x
noncomputable def fb25_3 : Stmt := by
  refine (?g : ∀ x, (fnBody (stAt 25))[3]? = some x → Stmt) _ rfl
  exact fun x _ => x
noncomputable def fl25 : Stmt := by
  refine (?g : ∀ n a b d r tp sc dk bi p, stAt 25 = Stmt.FunctionDef n a b d r tp sc dk bi p → Stmt) _ _ _ _ _ _ _ _ _ _ rfl
  exact fun n a b d r tp sc dk bi p _ => Stmt.FunctionDef n ar25 [fb25_0, fb25_1, fb25_2, fb25_3] d r tp sc25 dk bi p
noncomputable def fb26_0 : Stmt := by
  refine (?g : ∀ x, (fnBody (stAt 26))[0]? = some x → Stmt) _ rfl
  exact fun x _ => x
noncomputable def fb26_1 : Stmt := by
  refine (?g : ∀ x, (fnBody (stAt 26))[1]? = some x → Stmt) _ rfl
  exact fun x _ => x
noncomputable def fb26_2 : Stmt := by
  refine (?g : ∀ x, (fnBody (stAt 26))[2]? = some x → Stmt) _ rfl
  exact fun x _ => x
noncomputable def fb26_3 : Stmt := by
  refine (?g : ∀ x, (fnBody (stAt 26))[3]? = some x → Stmt) _ rfl
  exact fun x _ => x
noncomputable def fl26 : Stmt := by
  refine (?g : ∀ n a b d r tp sc dk bi p, stAt 26 = Stmt.FunctionDef n a b d r tp sc dk bi p → Stmt) _ _ _ _ _ _ _ _ _ _ rfl
  exact fun n a b d r tp sc dk bi p _ => Stmt.FunctionDef n ar26 [fb26_0, fb26_1, fb26_2, fb26_3] d r tp sc26 dk bi p
noncomputable def fb27_0 : Stmt := by
  refine (?g : ∀ x, (fnBody (stAt 27))[0]? = some x → Stmt) _ rfl
  exact fun x _ => x
noncomputable def fb27_1 : Stmt := by
  refine (?g : ∀ x, (fnBody (stAt 27))[1]? = some x → Stmt) _ rfl
  exact fun x _ => x
noncomputable def fb27_2 : Stmt := by
  refine (?g : ∀ x, (fnBody (stAt 27))[2]? = some x → Stmt) _ rfl
  exact fun x _ => x
noncomputable def fl27 : Stmt := by
  refine (?g : ∀ n a b d r tp sc dk bi p, stAt 27 = Stmt.FunctionDef n a b d r tp sc dk bi p → Stmt) _ _ _ _ _ _ _ _ _ _ rfl
  exact fun n a b d r tp sc dk bi p _ => Stmt.FunctionDef n ar27 [fb27_0, fb27_1, fb27_2] d r tp sc27 dk bi p
noncomputable def fb28_0 : Stmt := by
  refine (?g : ∀ x, (fnBody (stAt 28))[0]? = some x → Stmt) _ rfl
  exact fun x _ => x
noncomputable def fl28 : Stmt := by
  refine (?g : ∀ n a b d r tp sc dk bi p, stAt 28 = Stmt.FunctionDef n a b d r tp sc dk bi p → Stmt) _ _ _ _ _ _ _ _ _ _ rfl
  exact fun n a b d r tp sc dk bi p _ => Stmt.FunctionDef n ar28 [fb28_0] d r tp sc28 dk bi p
noncomputable def fb29_0 : Stmt := by
  refine (?g : ∀ x, (fnBody (stAt 29))[0]? = some x → Stmt) _ rfl
  exact fun x _ => x
noncomputable def fb29_1 : Stmt := by
  refine (?g : ∀ x, (fnBody (stAt 29))[1]? = some x → Stmt) _ rfl
  exact fun x _ => x
noncomputable def fb29_2 : Stmt := by
  refine (?g : ∀ x, (fnBody (stAt 29))[2]? = some x → Stmt) _ rfl
  exact fun x _ => x
noncomputable def fb29_3 : Stmt := by
  refine (?g : ∀ x, (fnBody (stAt 29))[3]? = some x → Stmt) _ rfl
  exact fun x _ => x
noncomputable def fb29_4 : Stmt := by
  refine (?g : ∀ x, (fnBody (stAt 29))[4]? = some x → Stmt) _ rfl
  exact fun x _ => x
noncomputable def fb29_5 : Stmt := by
  refine (?g : ∀ x, (fnBody (stAt 29))[5]? = some x → Stmt) _ rfl
  exact fun x _ => x
noncomputable def fb29_6 : Stmt := by
  refine (?g : ∀ x, (fnBody (stAt 29))[6]? = some x → Stmt) _ rfl
  exact fun x _ => x
noncomputable def fb29_7 : Stmt := by
  refine (?g : ∀ x, (fnBody (stAt 29))[7]? = some x → Stmt) _ rfl
  exact fun x _ => x
noncomputable def fb29_8 : Stmt := by
  refine (?g : ∀ x, (fnBody (stAt 29))[8]? = some x → Stmt) _ rfl
  exact fun x _ => x
noncomputable def fl29 : Stmt := by
  refine (?g : ∀ n a b d r tp sc dk bi p, stAt 29 = Stmt.FunctionDef n a b d r tp sc dk bi p → Stmt) _ _ _ _ _ _ _ _ _ _ rfl
  exact fun n a b d r tp sc dk bi p _ => Stmt.FunctionDef n ar29 [fb29_0, fb29_1, fb29_2, fb29_3, fb29_4, fb29_5, fb29_6, fb29_7, fb29_8] d r tp sc29 dk bi p
noncomputable def mb0_0 : Stmt := by
  refine (?g : ∀ x, (fnBody (mtAt 12 0))[0]? = some x → Stmt) _ rfl
  exact fun x _ => x
noncomputable def ml0 : Stmt := by
  refine (?g : ∀ n a b d r tp sc dk bi p, mtAt 12 0 = Stmt.FunctionDef n a b d r tp sc dk bi p → Stmt) _ _ _ _ _ _ _ _ _ _ rfl
  exact fun n a b d r tp sc dk bi p _ => Stmt.FunctionDef n am0 [mb0_0] d r tp sm0 dk bi p
noncomputable def mb1_0 : Stmt := by
  refine (?g : ∀ x, (fnBody (mtAt 12 1))[0]? = some x → Stmt) _ rfl
  exact fun x _ => x
noncomputable def mb1_1 : Stmt := by
  refine (?g : ∀ x, (fnBody (mtAt 12 1))[1]? = some x → Stmt) _ rfl
  exact fun x _ => x
noncomputable def mb1_2 : Stmt := by
  refine (?g : ∀ x, (fnBody (mtAt 12 1))[2]? = some x → Stmt) _ rfl
  exact fun x _ => x
noncomputable def ml1 : Stmt := by
  refine (?g : ∀ n a b d r tp sc dk bi p, mtAt 12 1 = Stmt.FunctionDef n a b d r tp sc dk bi p → Stmt) _ _ _ _ _ _ _ _ _ _ rfl
  exact fun n a b d r tp sc dk bi p _ => Stmt.FunctionDef n am1 [mb1_0, mb1_1, mb1_2] d r tp sm1 dk bi p
noncomputable def mb2_0 : Stmt := by
  refine (?g : ∀ x, (fnBody (mtAt 12 2))[0]? = some x → Stmt) _ rfl
  exact fun x _ => x
noncomputable def mb2_1 : Stmt := by
  refine (?g : ∀ x, (fnBody (mtAt 12 2))[1]? = some x → Stmt) _ rfl
  exact fun x _ => x
noncomputable def mb2_2 : Stmt := by
  refine (?g : ∀ x, (fnBody (mtAt 12 2))[2]? = some x → Stmt) _ rfl
  exact fun x _ => x
noncomputable def mb2_3 : Stmt := by
  refine (?g : ∀ x, (fnBody (mtAt 12 2))[3]? = some x → Stmt) _ rfl
  exact fun x _ => x
noncomputable def ml2 : Stmt := by
  refine (?g : ∀ n a b d r tp sc dk bi p, mtAt 12 2 = Stmt.FunctionDef n a b d r tp sc dk bi p → Stmt) _ _ _ _ _ _ _ _ _ _ rfl
  exact fun n a b d r tp sc dk bi p _ => Stmt.FunctionDef n am2 [mb2_0, mb2_1, mb2_2, mb2_3] d r tp sm2 dk bi p
noncomputable def mb3_0 : Stmt := by
  refine (?g : ∀ x, (fnBody (mtAt 12 3))[0]? = some x → Stmt) _ rfl
  exact fun x _ => x
noncomputable def mb3_1 : Stmt := by
  refine (?g : ∀ x, (fnBody (mtAt 12 3))[1]? = some x → Stmt) _ rfl
  exact fun x _ => x
noncomputable def ml3 : Stmt := by
  refine (?g : ∀ n a b d r tp sc dk bi p, mtAt 12 3 = Stmt.FunctionDef n a b d r tp sc dk bi p → Stmt) _ _ _ _ _ _ _ _ _ _ rfl
  exact fun n a b d r tp sc dk bi p _ => Stmt.FunctionDef n am3 [mb3_0, mb3_1] d r tp sm3 dk bi p
noncomputable def fl12 : Stmt := by
  refine (?g : ∀ n bs ks b d tp sc dk bi bt p, stAt 12 = Stmt.ClassDef n bs ks b d tp sc dk bi bt p → Stmt) _ _ _ _ _ _ _ _ _ _ _ rfl
  exact fun n bs ks b d tp sc dk bi bt p _ => Stmt.ClassDef n bs ks [ml0, ml1, ml2, ml3] d tp sc dk bi bt p
noncomputable def dk0 : List (Option Expr) := by
  refine (?g : ∀ x0 x1 x2 x3 x4 x5 x6 x7 x8 x9 x10 x11 x12, ((dKeys (stAt 21)).drop 0).take 13 = [x0, x1, x2, x3, x4, x5, x6, x7, x8, x9, x10, x11, x12] → List (Option Expr)) _ _ _ _ _ _ _ _ _ _ _ _ _ rfl
  exact fun x0 x1 x2 x3 x4 x5 x6 x7 x8 x9 x10 x11 x12 _ => [x0, x1, x2, x3, x4, x5, x6, x7, x8, x9, x10, x11, x12]
noncomputable def dv0 : List Expr := by
  refine (?g : ∀ x0 x1 x2 x3 x4 x5 x6 x7 x8 x9 x10 x11 x12, ((dVals (stAt 21)).drop 0).take 13 = [x0, x1, x2, x3, x4, x5, x6, x7, x8, x9, x10, x11, x12] → List Expr) _ _ _ _ _ _ _ _ _ _ _ _ _ rfl
  exact fun x0 x1 x2 x3 x4 x5 x6 x7 x8 x9 x10 x11 x12 _ => [x0, x1, x2, x3, x4, x5, x6, x7, x8, x9, x10, x11, x12]
noncomputable def dk13 : List (Option Expr) := by
  refine (?g : ∀ x0 x1 x2 x3 x4 x5 x6 x7 x8 x9 x10 x11 x12, ((dKeys (stAt 21)).drop 13).take 13 = [x0, x1, x2, x3, x4, x5, x6, x7, x8, x9, x10, x11, x12] → List (Option Expr)) _ _ _ _ _ _ _ _ _ _ _ _ _ rfl
  exact fun x0 x1 x2 x3 x4 x5 x6 x7 x8 x9 x10 x11 x12 _ => [x0, x1, x2, x3, x4, x5, x6, x7, x8, x9, x10, x11, x12]
noncomputable def dv13 : List Expr := by
  refine (?g : ∀ x0 x1 x2 x3 x4 x5 x6 x7 x8 x9 x10 x11 x12, ((dVals (stAt 21)).drop 13).take 13 = [x0, x1, x2, x3, x4, x5, x6, x7, x8, x9, x10, x11, x12] → List Expr) _ _ _ _ _ _ _ _ _ _ _ _ _ rfl
  exact fun x0 x1 x2 x3 x4 x5 x6 x7 x8 x9 x10 x11 x12 _ => [x0, x1, x2, x3, x4, x5, x6, x7, x8, x9, x10, x11, x12]
noncomputable def dk26 : List (Option Expr) := by
  refine (?g : ∀ x0 x1 x2 x3 x4 x5 x6 x7 x8 x9 x10 x11 x12, ((dKeys (stAt 21)).drop 26).take 13 = [x0, x1, x2, x3, x4, x5, x6, x7, x8, x9, x10, x11, x12] → List (Option Expr)) _ _ _ _ _ _ _ _ _ _ _ _ _ rfl
  exact fun x0 x1 x2 x3 x4 x5 x6 x7 x8 x9 x10 x11 x12 _ => [x0, x1, x2, x3, x4, x5, x6, x7, x8, x9, x10, x11, x12]
noncomputable def dv26 : List Expr := by
  refine (?g : ∀ x0 x1 x2 x3 x4 x5 x6 x7 x8 x9 x10 x11 x12, ((dVals (stAt 21)).drop 26).take 13 = [x0, x1, x2, x3, x4, x5, x6, x7, x8, x9, x10, x11, x12] → List Expr) _ _ _ _ _ _ _ _ _ _ _ _ _ rfl
  exact fun x0 x1 x2 x3 x4 x5 x6 x7 x8 x9 x10 x11 x12 _ => [x0, x1, x2, x3, x4, x5, x6, x7, x8, x9, x10, x11, x12]
noncomputable def dk39 : List (Option Expr) := by
  refine (?g : ∀ x0 x1 x2 x3 x4 x5 x6 x7 x8 x9 x10 x11 x12, ((dKeys (stAt 21)).drop 39).take 13 = [x0, x1, x2, x3, x4, x5, x6, x7, x8, x9, x10, x11, x12] → List (Option Expr)) _ _ _ _ _ _ _ _ _ _ _ _ _ rfl
  exact fun x0 x1 x2 x3 x4 x5 x6 x7 x8 x9 x10 x11 x12 _ => [x0, x1, x2, x3, x4, x5, x6, x7, x8, x9, x10, x11, x12]
noncomputable def dv39 : List Expr := by
  refine (?g : ∀ x0 x1 x2 x3 x4 x5 x6 x7 x8 x9 x10 x11 x12, ((dVals (stAt 21)).drop 39).take 13 = [x0, x1, x2, x3, x4, x5, x6, x7, x8, x9, x10, x11, x12] → List Expr) _ _ _ _ _ _ _ _ _ _ _ _ _ rfl
  exact fun x0 x1 x2 x3 x4 x5 x6 x7 x8 x9 x10 x11 x12 _ => [x0, x1, x2, x3, x4, x5, x6, x7, x8, x9, x10, x11, x12]
noncomputable def dk52 : List (Option Expr) := by
  refine (?g : ∀ x0 x1 x2 x3 x4 x5 x6 x7 x8 x9 x10 x11 x12, ((dKeys (stAt 21)).drop 52).take 13 = [x0, x1, x2, x3, x4, x5, x6, x7, x8, x9, x10, x11, x12] → List (Option Expr)) _ _ _ _ _ _ _ _ _ _ _ _ _ rfl
  exact fun x0 x1 x2 x3 x4 x5 x6 x7 x8 x9 x10 x11 x12 _ => [x0, x1, x2, x3, x4, x5, x6, x7, x8, x9, x10, x11, x12]
noncomputable def dv52 : List Expr := by
  refine (?g : ∀ x0 x1 x2 x3 x4 x5 x6 x7 x8 x9 x10 x11 x12, ((dVals (stAt 21)).drop 52).take 13 = [x0, x1, x2, x3, x4, x5, x6, x7, x8, x9, x10, x11, x12] → List Expr) _ _ _ _ _ _ _ _ _ _ _ _ _ rfl
  exact fun x0 x1 x2 x3 x4 x5 x6 x7 x8 x9 x10 x11 x12 _ => [x0, x1, x2, x3, x4, x5, x6, x7, x8, x9, x10, x11, x12]
noncomputable def dk65 : List (Option Expr) := by
  refine (?g : ∀ x0 x1 x2 x3 x4 x5 x6 x7 x8 x9 x10 x11 x12, ((dKeys (stAt 21)).drop 65).take 13 = [x0, x1, x2, x3, x4, x5, x6, x7, x8, x9, x10, x11, x12] → List (Option Expr)) _ _ _ _ _ _ _ _ _ _ _ _ _ rfl
  exact fun x0 x1 x2 x3 x4 x5 x6 x7 x8 x9 x10 x11 x12 _ => [x0, x1, x2, x3, x4, x5, x6, x7, x8, x9, x10, x11, x12]
noncomputable def dv65 : List Expr := by
  refine (?g : ∀ x0 x1 x2 x3 x4 x5 x6 x7 x8 x9 x10 x11 x12, ((dVals (stAt 21)).drop 65).take 13 = [x0, x1, x2, x3, x4, x5, x6, x7, x8, x9, x10, x11, x12] → List Expr) _ _ _ _ _ _ _ _ _ _ _ _ _ rfl
  exact fun x0 x1 x2 x3 x4 x5 x6 x7 x8 x9 x10 x11 x12 _ => [x0, x1, x2, x3, x4, x5, x6, x7, x8, x9, x10, x11, x12]
noncomputable def dk78 : List (Option Expr) := by
  refine (?g : ∀ x0 x1 x2 x3 x4 x5 x6 x7 x8 x9 x10 x11 x12, ((dKeys (stAt 21)).drop 78).take 13 = [x0, x1, x2, x3, x4, x5, x6, x7, x8, x9, x10, x11, x12] → List (Option Expr)) _ _ _ _ _ _ _ _ _ _ _ _ _ rfl
  exact fun x0 x1 x2 x3 x4 x5 x6 x7 x8 x9 x10 x11 x12 _ => [x0, x1, x2, x3, x4, x5, x6, x7, x8, x9, x10, x11, x12]
noncomputable def dv78 : List Expr := by
  refine (?g : ∀ x0 x1 x2 x3 x4 x5 x6 x7 x8 x9 x10 x11 x12, ((dVals (stAt 21)).drop 78).take 13 = [x0, x1, x2, x3, x4, x5, x6, x7, x8, x9, x10, x11, x12] → List Expr) _ _ _ _ _ _ _ _ _ _ _ _ _ rfl
  exact fun x0 x1 x2 x3 x4 x5 x6 x7 x8 x9 x10 x11 x12 _ => [x0, x1, x2, x3, x4, x5, x6, x7, x8, x9, x10, x11, x12]
noncomputable def dk91 : List (Option Expr) := by
  refine (?g : ∀ x0 x1 x2 x3 x4 x5 x6 x7 x8 x9 x10 x11 x12, ((dKeys (stAt 21)).drop 91).take 13 = [x0, x1, x2, x3, x4, x5, x6, x7, x8, x9, x10, x11, x12] → List (Option Expr)) _ _ _ _ _ _ _ _ _ _ _ _ _ rfl
  exact fun x0 x1 x2 x3 x4 x5 x6 x7 x8 x9 x10 x11 x12 _ => [x0, x1, x2, x3, x4, x5, x6, x7, x8, x9, x10, x11, x12]
noncomputable def dv91 : List Expr := by
  refine (?g : ∀ x0 x1 x2 x3 x4 x5 x6 x7 x8 x9 x10 x11 x12, ((dVals (stAt 21)).drop 91).take 13 = [x0, x1, x2, x3, x4, x5, x6, x7, x8, x9, x10, x11, x12] → List Expr) _ _ _ _ _ _ _ _ _ _ _ _ _ rfl
  exact fun x0 x1 x2 x3 x4 x5 x6 x7 x8 x9 x10 x11 x12 _ => [x0, x1, x2, x3, x4, x5, x6, x7, x8, x9, x10, x11, x12]
noncomputable def dk104 : List (Option Expr) := by
  refine (?g : ∀ x0 x1 x2 x3 x4 x5 x6 x7 x8 x9 x10 x11 x12, ((dKeys (stAt 21)).drop 104).take 13 = [x0, x1, x2, x3, x4, x5, x6, x7, x8, x9, x10, x11, x12] → List (Option Expr)) _ _ _ _ _ _ _ _ _ _ _ _ _ rfl
  exact fun x0 x1 x2 x3 x4 x5 x6 x7 x8 x9 x10 x11 x12 _ => [x0, x1, x2, x3, x4, x5, x6, x7, x8, x9, x10, x11, x12]
noncomputable def dv104 : List Expr := by
  refine (?g : ∀ x0 x1 x2 x3 x4 x5 x6 x7 x8 x9 x10 x11 x12, ((dVals (stAt 21)).drop 104).take 13 = [x0, x1, x2, x3, x4, x5, x6, x7, x8, x9, x10, x11, x12] → List Expr) _ _ _ _ _ _ _ _ _ _ _ _ _ rfl
  exact fun x0 x1 x2 x3 x4 x5 x6 x7 x8 x9 x10 x11 x12 _ => [x0, x1, x2, x3, x4, x5, x6, x7, x8, x9, x10, x11, x12]
noncomputable def dk117 : List (Option Expr) := by
  refine (?g : ∀ x0 x1 x2 x3 x4 x5 x6 x7 x8 x9 x10 x11 x12, ((dKeys (stAt 21)).drop 117).take 13 = [x0, x1, x2, x3, x4, x5, x6, x7, x8, x9, x10, x11, x12] → List (Option Expr)) _ _ _ _ _ _ _ _ _ _ _ _ _ rfl
  exact fun x0 x1 x2 x3 x4 x5 x6 x7 x8 x9 x10 x11 x12 _ => [x0, x1, x2, x3, x4, x5, x6, x7, x8, x9, x10, x11, x12]
noncomputable def dv117 : List Expr := by
  refine (?g : ∀ x0 x1 x2 x3 x4 x5 x6 x7 x8 x9 x10 x11 x12, ((dVals (stAt 21)).drop 117).take 13 = [x0, x1, x2, x3, x4, x5, x6, x7, x8, x9, x10, x11, x12] → List Expr) _ _ _ _ _ _ _ _ _ _ _ _ _ rfl
  exact fun x0 x1 x2 x3 x4 x5 x6 x7 x8 x9 x10 x11 x12 _ => [x0, x1, x2, x3, x4, x5, x6, x7, x8, x9, x10, x11, x12]
noncomputable def dk130 : List (Option Expr) := by
  refine (?g : ∀ x0 x1 x2 x3 x4 x5 x6 x7 x8 x9 x10 x11 x12, ((dKeys (stAt 21)).drop 130).take 13 = [x0, x1, x2, x3, x4, x5, x6, x7, x8, x9, x10, x11, x12] → List (Option Expr)) _ _ _ _ _ _ _ _ _ _ _ _ _ rfl
  exact fun x0 x1 x2 x3 x4 x5 x6 x7 x8 x9 x10 x11 x12 _ => [x0, x1, x2, x3, x4, x5, x6, x7, x8, x9, x10, x11, x12]
noncomputable def dv130 : List Expr := by
  refine (?g : ∀ x0 x1 x2 x3 x4 x5 x6 x7 x8 x9 x10 x11 x12, ((dVals (stAt 21)).drop 130).take 13 = [x0, x1, x2, x3, x4, x5, x6, x7, x8, x9, x10, x11, x12] → List Expr) _ _ _ _ _ _ _ _ _ _ _ _ _ rfl
  exact fun x0 x1 x2 x3 x4 x5 x6 x7 x8 x9 x10 x11 x12 _ => [x0, x1, x2, x3, x4, x5, x6, x7, x8, x9, x10, x11, x12]
noncomputable def dk143 : List (Option Expr) := by
  refine (?g : ∀ x0 x1 x2 x3 x4 x5 x6 x7 x8 x9 x10 x11 x12, ((dKeys (stAt 21)).drop 143).take 13 = [x0, x1, x2, x3, x4, x5, x6, x7, x8, x9, x10, x11, x12] → List (Option Expr)) _ _ _ _ _ _ _ _ _ _ _ _ _ rfl
  exact fun x0 x1 x2 x3 x4 x5 x6 x7 x8 x9 x10 x11 x12 _ => [x0, x1, x2, x3, x4, x5, x6, x7, x8, x9, x10, x11, x12]
noncomputable def dv143 : List Expr := by
  refine (?g : ∀ x0 x1 x2 x3 x4 x5 x6 x7 x8 x9 x10 x11 x12, ((dVals (stAt 21)).drop 143).take 13 = [x0, x1, x2, x3, x4, x5, x6, x7, x8, x9, x10, x11, x12] → List Expr) _ _ _ _ _ _ _ _ _ _ _ _ _ rfl
  exact fun x0 x1 x2 x3 x4 x5 x6 x7 x8 x9 x10 x11 x12 _ => [x0, x1, x2, x3, x4, x5, x6, x7, x8, x9, x10, x11, x12]
noncomputable def dk156 : List (Option Expr) := by
  refine (?g : ∀ x0 x1 x2 x3 x4 x5 x6 x7 x8 x9 x10 x11 x12, ((dKeys (stAt 21)).drop 156).take 13 = [x0, x1, x2, x3, x4, x5, x6, x7, x8, x9, x10, x11, x12] → List (Option Expr)) _ _ _ _ _ _ _ _ _ _ _ _ _ rfl
  exact fun x0 x1 x2 x3 x4 x5 x6 x7 x8 x9 x10 x11 x12 _ => [x0, x1, x2, x3, x4, x5, x6, x7, x8, x9, x10, x11, x12]
noncomputable def dv156 : List Expr := by
  refine (?g : ∀ x0 x1 x2 x3 x4 x5 x6 x7 x8 x9 x10 x11 x12, ((dVals (stAt 21)).drop 156).take 13 = [x0, x1, x2, x3, x4, x5, x6, x7, x8, x9, x10, x11, x12] → List Expr) _ _ _ _ _ _ _ _ _ _ _ _ _ rfl
  exact fun x0 x1 x2 x3 x4 x5 x6 x7 x8 x9 x10 x11 x12 _ => [x0, x1, x2, x3, x4, x5, x6, x7, x8, x9, x10, x11, x12]
noncomputable def dk169 : List (Option Expr) := by
  refine (?g : ∀ x0 x1 x2 x3 x4 x5 x6 x7 x8 x9 x10 x11 x12, ((dKeys (stAt 21)).drop 169).take 13 = [x0, x1, x2, x3, x4, x5, x6, x7, x8, x9, x10, x11, x12] → List (Option Expr)) _ _ _ _ _ _ _ _ _ _ _ _ _ rfl
  exact fun x0 x1 x2 x3 x4 x5 x6 x7 x8 x9 x10 x11 x12 _ => [x0, x1, x2, x3, x4, x5, x6, x7, x8, x9, x10, x11, x12]
noncomputable def dv169 : List Expr := by
  refine (?g : ∀ x0 x1 x2 x3 x4 x5 x6 x7 x8 x9 x10 x11 x12, ((dVals (stAt 21)).drop 169).take 13 = [x0, x1, x2, x3, x4, x5, x6, x7, x8, x9, x10, x11, x12] → List Expr) _ _ _ _ _ _ _ _ _ _ _ _ _ rfl
  exact fun x0 x1 x2 x3 x4 x5 x6 x7 x8 x9 x10 x11 x12 _ => [x0, x1, x2, x3, x4, x5, x6, x7, x8, x9, x10, x11, x12]
noncomputable def dk182 : List (Option Expr) := by
  refine (?g : ∀ x0 x1 x2 x3 x4 x5 x6 x7 x8 x9 x10 x11 x12, ((dKeys (stAt 21)).drop 182).take 13 = [x0, x1, x2, x3, x4, x5, x6, x7, x8, x9, x10, x11, x12] → List (Option Expr)) _ _ _ _ _ _ _ _ _ _ _ _ _ rfl
  exact fun x0 x1 x2 x3 x4 x5 x6 x7 x8 x9 x10 x11 x12 _ => [x0, x1, x2, x3, x4, x5, x6, x7, x8, x9, x10, x11, x12]
noncomputable def dv182 : List Expr := by
  refine (?g : ∀ x0 x1 x2 x3 x4 x5 x6 x7 x8 x9 x10 x11 x12, ((dVals (stAt 21)).drop 182).take 13 = [x0, x1, x2, x3, x4, x5, x6, x7, x8, x9, x10, x11, x12] → List Expr) _ _ _ _ _ _ _ _ _ _ _ _ _ rfl
  exact fun x0 x1 x2 x3 x4 x5 x6 x7 x8 x9 x10 x11 x12 _ => [x0, x1, x2, x3, x4, x5, x6, x7, x8, x9, x10, x11, x12]
noncomputable def dk195 : List (Option Expr) := by
  refine (?g : ∀ x0 x1 x2 x3 x4 x5 x6 x7 x8 x9 x10 x11 x12, ((dKeys (stAt 21)).drop 195).take 13 = [x0, x1, x2, x3, x4, x5, x6, x7, x8, x9, x10, x11, x12] → List (Option Expr)) _ _ _ _ _ _ _ _ _ _ _ _ _ rfl
  exact fun x0 x1 x2 x3 x4 x5 x6 x7 x8 x9 x10 x11 x12 _ => [x0, x1, x2, x3, x4, x5, x6, x7, x8, x9, x10, x11, x12]
noncomputable def dv195 : List Expr := by
  refine (?g : ∀ x0 x1 x2 x3 x4 x5 x6 x7 x8 x9 x10 x11 x12, ((dVals (stAt 21)).drop 195).take 13 = [x0, x1, x2, x3, x4, x5, x6, x7, x8, x9, x10, x11, x12] → List Expr) _ _ _ _ _ _ _ _ _ _ _ _ _ rfl
  exact fun x0 x1 x2 x3 x4 x5 x6 x7 x8 x9 x10 x11 x12 _ => [x0, x1, x2, x3, x4, x5, x6, x7, x8, x9, x10, x11, x12]
noncomputable def dk208 : List (Option Expr) := by
  refine (?g : ∀ x0 x1 x2 x3 x4 x5 x6 x7 x8 x9 x10 x11 x12, ((dKeys (stAt 21)).drop 208).take 13 = [x0, x1, x2, x3, x4, x5, x6, x7, x8, x9, x10, x11, x12] → List (Option Expr)) _ _ _ _ _ _ _ _ _ _ _ _ _ rfl
  exact fun x0 x1 x2 x3 x4 x5 x6 x7 x8 x9 x10 x11 x12 _ => [x0, x1, x2, x3, x4, x5, x6, x7, x8, x9, x10, x11, x12]
noncomputable def dv208 : List Expr := by
  refine (?g : ∀ x0 x1 x2 x3 x4 x5 x6 x7 x8 x9 x10 x11 x12, ((dVals (stAt 21)).drop 208).take 13 = [x0, x1, x2, x3, x4, x5, x6, x7, x8, x9, x10, x11, x12] → List Expr) _ _ _ _ _ _ _ _ _ _ _ _ _ rfl
  exact fun x0 x1 x2 x3 x4 x5 x6 x7 x8 x9 x10 x11 x12 _ => [x0, x1, x2, x3, x4, x5, x6, x7, x8, x9, x10, x11, x12]
noncomputable def dk221 : List (Option Expr) := by
  refine (?g : ∀ x0 x1 x2 x3 x4 x5 x6 x7 x8 x9 x10 x11 x12, ((dKeys (stAt 21)).drop 221).take 13 = [x0, x1, x2, x3, x4, x5, x6, x7, x8, x9, x10, x11, x12] → List (Option Expr)) _ _ _ _ _ _ _ _ _ _ _ _ _ rfl
  exact fun x0 x1 x2 x3 x4 x5 x6 x7 x8 x9 x10 x11 x12 _ => [x0, x1, x2, x3, x4, x5, x6, x7, x8, x9, x10, x11, x12]
noncomputable def dv221 : List Expr := by
  refine (?g : ∀ x0 x1 x2 x3 x4 x5 x6 x7 x8 x9 x10 x11 x12, ((dVals (stAt 21)).drop 221).take 13 = [x0, x1, x2, x3, x4, x5, x6, x7, x8, x9, x10, x11, x12] → List Expr) _ _ _ _ _ _ _ _ _ _ _ _ _ rfl
  exact fun x0 x1 x2 x3 x4 x5 x6 x7 x8 x9 x10 x11 x12 _ => [x0, x1, x2, x3, x4, x5, x6, x7, x8, x9, x10, x11, x12]
noncomputable def dk234 : List (Option Expr) := by
  refine (?g : ∀ x0 x1 x2 x3 x4 x5 x6 x7 x8 x9 x10 x11 x12, ((dKeys (stAt 21)).drop 234).take 13 = [x0, x1, x2, x3, x4, x5, x6, x7, x8, x9, x10, x11, x12] → List (Option Expr)) _ _ _ _ _ _ _ _ _ _ _ _ _ rfl
  exact fun x0 x1 x2 x3 x4 x5 x6 x7 x8 x9 x10 x11 x12 _ => [x0, x1, x2, x3, x4, x5, x6, x7, x8, x9, x10, x11, x12]
noncomputable def dv234 : List Expr := by
  refine (?g : ∀ x0 x1 x2 x3 x4 x5 x6 x7 x8 x9 x10 x11 x12, ((dVals (stAt 21)).drop 234).take 13 = [x0, x1, x2, x3, x4, x5, x6, x7, x8, x9, x10, x11, x12] → List Expr) _ _ _ _ _ _ _ _ _ _ _ _ _ rfl
  exact fun x0 x1 x2 x3 x4 x5 x6 x7 x8 x9 x10 x11 x12 _ => [x0, x1, x2, x3, x4, x5, x6, x7, x8, x9, x10, x11, x12]
noncomputable def dk247 : List (Option Expr) := by
  refine (?g : ∀ x0 x1 x2 x3 x4 x5 x6 x7 x8 x9 x10 x11 x12, ((dKeys (stAt 21)).drop 247).take 13 = [x0, x1, x2, x3, x4, x5, x6, x7, x8, x9, x10, x11, x12] → List (Option Expr)) _ _ _ _ _ _ _ _ _ _ _ _ _ rfl
  exact fun x0 x1 x2 x3 x4 x5 x6 x7 x8 x9 x10 x11 x12 _ => [x0, x1, x2, x3, x4, x5, x6, x7, x8, x9, x10, x11, x12]
noncomputable def dv247 : List Expr := by
  refine (?g : ∀ x0 x1 x2 x3 x4 x5 x6 x7 x8 x9 x10 x11 x12, ((dVals (stAt 21)).drop 247).take 13 = [x0, x1, x2, x3, x4, x5, x6, x7, x8, x9, x10, x11, x12] → List Expr) _ _ _ _ _ _ _ _ _ _ _ _ _ rfl
  exact fun x0 x1 x2 x3 x4 x5 x6 x7 x8 x9 x10 x11 x12 _ => [x0, x1, x2, x3, x4, x5, x6, x7, x8, x9, x10, x11, x12]
noncomputable def dk260 : List (Option Expr) := by
  refine (?g : ∀ x0 x1 x2 x3 x4 x5 x6 x7 x8 x9 x10 x11 x12, ((dKeys (stAt 21)).drop 260).take 13 = [x0, x1, x2, x3, x4, x5, x6, x7, x8, x9, x10, x11, x12] → List (Option Expr)) _ _ _ _ _ _ _ _ _ _ _ _ _ rfl
  exact fun x0 x1 x2 x3 x4 x5 x6 x7 x8 x9 x10 x11 x12 _ => [x0, x1, x2, x3, x4, x5, x6, x7, x8, x9, x10, x11, x12]
noncomputable def dv260 : List Expr := by
  refine (?g : ∀ x0 x1 x2 x3 x4 x5 x6 x7 x8 x9 x10 x11 x12, ((dVals (stAt 21)).drop 260).take 13 = [x0, x1, x2, x3, x4, x5, x6, x7, x8, x9, x10, x11, x12] → List Expr) _ _ _ _ _ _ _ _ _ _ _ _ _ rfl
  exact fun x0 x1 x2 x3 x4 x5 x6 x7 x8 x9 x10 x11 x12 _ => [x0, x1, x2, x3, x4, x5, x6, x7, x8, x9, x10, x11, x12]
noncomputable def dk273 : List (Option Expr) := by
  refine (?g : ∀ x0 x1 x2 x3 x4 x5 x6 x7 x8 x9 x10 x11 x12, ((dKeys (stAt 21)).drop 273).take 13 = [x0, x1, x2, x3, x4, x5, x6, x7, x8, x9, x10, x11, x12] → List (Option Expr)) _ _ _ _ _ _ _ _ _ _ _ _ _ rfl
  exact fun x0 x1 x2 x3 x4 x5 x6 x7 x8 x9 x10 x11 x12 _ => [x0, x1, x2, x3, x4, x5, x6, x7, x8, x9, x10, x11, x12]
noncomputable def dv273 : List Expr := by
  refine (?g : ∀ x0 x1 x2 x3 x4 x5 x6 x7 x8 x9 x10 x11 x12, ((dVals (stAt 21)).drop 273).take 13 = [x0, x1, x2, x3, x4, x5, x6, x7, x8, x9, x10, x11, x12] → List Expr) _ _ _ _ _ _ _ _ _ _ _ _ _ rfl
  exact fun x0 x1 x2 x3 x4 x5 x6 x7 x8 x9 x10 x11 x12 _ => [x0, x1, x2, x3, x4, x5, x6, x7, x8, x9, x10, x11, x12]
noncomputable def dk286 : List (Option Expr) := by
  refine (?g : ∀ x0 x1 x2 x3 x4 x5 x6 x7 x8 x9 x10 x11 x12, ((dKeys (stAt 21)).drop 286).take 13 = [x0, x1, x2, x3, x4, x5, x6, x7, x8, x9, x10, x11, x12] → List (Option Expr)) _ _ _ _ _ _ _ _ _ _ _ _ _ rfl
  exact fun x0 x1 x2 x3 x4 x5 x6 x7 x8 x9 x10 x11 x12 _ => [x0, x1, x2, x3, x4, x5, x6, x7, x8, x9, x10, x11, x12]
noncomputable def dv286 : List Expr := by
  refine (?g : ∀ x0 x1 x2 x3 x4 x5 x6 x7 x8 x9 x10 x11 x12, ((dVals (stAt 21)).drop 286).take 13 = [x0, x1, x2, x3, x4, x5, x6, x7, x8, x9, x10, x11, x12] → List Expr) _ _ _ _ _ _ _ _ _ _ _ _ _ rfl
  exact fun x0 x1 x2 x3 x4 x5 x6 x7 x8 x9 x10 x11 x12 _ => [x0, x1, x2, x3, x4, x5, x6, x7, x8, x9, x10, x11, x12]
noncomputable def dk299 : List (Option Expr) := by
  refine (?g : ∀ x0 x1 x2 x3 x4 x5 x6 x7 x8 x9 x10 x11 x12, ((dKeys (stAt 21)).drop 299).take 13 = [x0, x1, x2, x3, x4, x5, x6, x7, x8, x9, x10, x11, x12] → List (Option Expr)) _ _ _ _ _ _ _ _ _ _ _ _ _ rfl
  exact fun x0 x1 x2 x3 x4 x5 x6 x7 x8 x9 x10 x11 x12 _ => [x0, x1, x2, x3, x4, x5, x6, x7, x8, x9, x10, x11, x12]
noncomputable def dv299 : List Expr := by
  refine (?g : ∀ x0 x1 x2 x3 x4 x5 x6 x7 x8 x9 x10 x11 x12, ((dVals (stAt 21)).drop 299).take 13 = [x0, x1, x2, x3, x4, x5, x6, x7, x8, x9, x10, x11, x12] → List Expr) _ _ _ _ _ _ _ _ _ _ _ _ _ rfl
  exact fun x0 x1 x2 x3 x4 x5 x6 x7 x8 x9 x10 x11 x12 _ => [x0, x1, x2, x3, x4, x5, x6, x7, x8, x9, x10, x11, x12]
noncomputable def dk312 : List (Option Expr) := by
  refine (?g : ∀ x0 x1 x2 x3 x4 x5 x6 x7 x8 x9 x10 x11 x12, ((dKeys (stAt 21)).drop 312).take 13 = [x0, x1, x2, x3, x4, x5, x6, x7, x8, x9, x10, x11, x12] → List (Option Expr)) _ _ _ _ _ _ _ _ _ _ _ _ _ rfl
  exact fun x0 x1 x2 x3 x4 x5 x6 x7 x8 x9 x10 x11 x12 _ => [x0, x1, x2, x3, x4, x5, x6, x7, x8, x9, x10, x11, x12]
noncomputable def dv312 : List Expr := by
  refine (?g : ∀ x0 x1 x2 x3 x4 x5 x6 x7 x8 x9 x10 x11 x12, ((dVals (stAt 21)).drop 312).take 13 = [x0, x1, x2, x3, x4, x5, x6, x7, x8, x9, x10, x11, x12] → List Expr) _ _ _ _ _ _ _ _ _ _ _ _ _ rfl
  exact fun x0 x1 x2 x3 x4 x5 x6 x7 x8 x9 x10 x11 x12 _ => [x0, x1, x2, x3, x4, x5, x6, x7, x8, x9, x10, x11, x12]
noncomputable def dk325 : List (Option Expr) := by
  refine (?g : ∀ x0 x1 x2 x3 x4 x5 x6 x7 x8 x9 x10 x11 x12, ((dKeys (stAt 21)).drop 325).take 13 = [x0, x1, x2, x3, x4, x5, x6, x7, x8, x9, x10, x11, x12] → List (Option Expr)) _ _ _ _ _ _ _ _ _ _ _ _ _ rfl
  exact fun x0 x1 x2 x3 x4 x5 x6 x7 x8 x9 x10 x11 x12 _ => [x0, x1, x2, x3, x4, x5, x6, x7, x8, x9, x10, x11, x12]
noncomputable def dv325 : List Expr := by
  refine (?g : ∀ x0 x1 x2 x3 x4 x5 x6 x7 x8 x9 x10 x11 x12, ((dVals (stAt 21)).drop 325).take 13 = [x0, x1, x2, x3, x4, x5, x6, x7, x8, x9, x10, x11, x12] → List Expr) _ _ _ _ _ _ _ _ _ _ _ _ _ rfl
  exact fun x0 x1 x2 x3 x4 x5 x6 x7 x8 x9 x10 x11 x12 _ => [x0, x1, x2, x3, x4, x5, x6, x7, x8, x9, x10, x11, x12]
noncomputable def dk338 : List (Option Expr) := by
  refine (?g : ∀ x0 x1 x2 x3 x4 x5 x6 x7 x8 x9 x10 x11 x12, ((dKeys (stAt 21)).drop 338).take 13 = [x0, x1, x2, x3, x4, x5, x6, x7, x8, x9, x10, x11, x12] → List (Option Expr)) _ _ _ _ _ _ _ _ _ _ _ _ _ rfl
  exact fun x0 x1 x2 x3 x4 x5 x6 x7 x8 x9 x10 x11 x12 _ => [x0, x1, x2, x3, x4, x5, x6, x7, x8, x9, x10, x11, x12]
noncomputable def dv338 : List Expr := by
  refine (?g : ∀ x0 x1 x2 x3 x4 x5 x6 x7 x8 x9 x10 x11 x12, ((dVals (stAt 21)).drop 338).take 13 = [x0, x1, x2, x3, x4, x5, x6, x7, x8, x9, x10, x11, x12] → List Expr) _ _ _ _ _ _ _ _ _ _ _ _ _ rfl
  exact fun x0 x1 x2 x3 x4 x5 x6 x7 x8 x9 x10 x11 x12 _ => [x0, x1, x2, x3, x4, x5, x6, x7, x8, x9, x10, x11, x12]
noncomputable def dk351 : List (Option Expr) := by
  refine (?g : ∀ x0 x1 x2 x3 x4 x5 x6 x7 x8 x9 x10 x11 x12, ((dKeys (stAt 21)).drop 351).take 13 = [x0, x1, x2, x3, x4, x5, x6, x7, x8, x9, x10, x11, x12] → List (Option Expr)) _ _ _ _ _ _ _ _ _ _ _ _ _ rfl
  exact fun x0 x1 x2 x3 x4 x5 x6 x7 x8 x9 x10 x11 x12 _ => [x0, x1, x2, x3, x4, x5, x6, x7, x8, x9, x10, x11, x12]
noncomputable def dv351 : List Expr := by
  refine (?g : ∀ x0 x1 x2 x3 x4 x5 x6 x7 x8 x9 x10 x11 x12, ((dVals (stAt 21)).drop 351).take 13 = [x0, x1, x2, x3, x4, x5, x6, x7, x8, x9, x10, x11, x12] → List Expr) _ _ _ _ _ _ _ _ _ _ _ _ _ rfl
  exact fun x0 x1 x2 x3 x4 x5 x6 x7 x8 x9 x10 x11 x12 _ => [x0, x1, x2, x3, x4, x5, x6, x7, x8, x9, x10, x11, x12]
noncomputable def dk364 : List (Option Expr) := by
  refine (?g : ∀ x0 x1 x2 x3 x4 x5 x6 x7 x8 x9 x10 x11 x12, ((dKeys (stAt 21)).drop 364).take 13 = [x0, x1, x2, x3, x4, x5, x6, x7, x8, x9, x10, x11, x12] → List (Option Expr)) _ _ _ _ _ _ _ _ _ _ _ _ _ rfl
  exact fun x0 x1 x2 x3 x4 x5 x6 x7 x8 x9 x10 x11 x12 _ => [x0, x1, x2, x3, x4, x5, x6, x7, x8, x9, x10, x11, x12]
noncomputable def dv364 : List Expr := by
  refine (?g : ∀ x0 x1 x2 x3 x4 x5 x6 x7 x8 x9 x10 x11 x12, ((dVals (stAt 21)).drop 364).take 13 = [x0, x1, x2, x3, x4, x5, x6, x7, x8, x9, x10, x11, x12] → List Expr) _ _ _ _ _ _ _ _ _ _ _ _ _ rfl
  exact fun x0 x1 x2 x3 x4 x5 x6 x7 x8 x9 x10 x11 x12 _ => [x0, x1, x2, x3, x4, x5, x6, x7, x8, x9, x10, x11, x12]
noncomputable def dk377 : List (Option Expr) := by
  refine (?g : ∀ x0 x1 x2 x3 x4 x5 x6 x7 x8 x9 x10 x11 x12, ((dKeys (stAt 21)).drop 377).take 13 = [x0, x1, x2, x3, x4, x5, x6, x7, x8, x9, x10, x11, x12] → List (Option Expr)) _ _ _ _ _ _ _ _ _ _ _ _ _ rfl
  exact fun x0 x1 x2 x3 x4 x5 x6 x7 x8 x9 x10 x11 x12 _ => [x0, x1, x2, x3, x4, x5, x6, x7, x8, x9, x10, x11, x12]
noncomputable def dv377 : List Expr := by
  refine (?g : ∀ x0 x1 x2 x3 x4 x5 x6 x7 x8 x9 x10 x11 x12, ((dVals (stAt 21)).drop 377).take 13 = [x0, x1, x2, x3, x4, x5, x6, x7, x8, x9, x10, x11, x12] → List Expr) _ _ _ _ _ _ _ _ _ _ _ _ _ rfl
  exact fun x0 x1 x2 x3 x4 x5 x6 x7 x8 x9 x10 x11 x12 _ => [x0, x1, x2, x3, x4, x5, x6, x7, x8, x9, x10, x11, x12]
noncomputable def dk390 : List (Option Expr) := by
  refine (?g : ∀ x0 x1 x2 x3 x4 x5 x6 x7 x8 x9 x10 x11 x12, ((dKeys (stAt 21)).drop 390).take 13 = [x0, x1, x2, x3, x4, x5, x6, x7, x8, x9, x10, x11, x12] → List (Option Expr)) _ _ _ _ _ _ _ _ _ _ _ _ _ rfl
  exact fun x0 x1 x2 x3 x4 x5 x6 x7 x8 x9 x10 x11 x12 _ => [x0, x1, x2, x3, x4, x5, x6, x7, x8, x9, x10, x11, x12]
noncomputable def dv390 : List Expr := by
  refine (?g : ∀ x0 x1 x2 x3 x4 x5 x6 x7 x8 x9 x10 x11 x12, ((dVals (stAt 21)).drop 390).take 13 = [x0, x1, x2, x3, x4, x5, x6, x7, x8, x9, x10, x11, x12] → List Expr) _ _ _ _ _ _ _ _ _ _ _ _ _ rfl
  exact fun x0 x1 x2 x3 x4 x5 x6 x7 x8 x9 x10 x11 x12 _ => [x0, x1, x2, x3, x4, x5, x6, x7, x8, x9, x10, x11, x12]
noncomputable def dk403 : List (Option Expr) := by
  refine (?g : ∀ x0 x1 x2 x3 x4 x5 x6 x7 x8 x9 x10 x11 x12, ((dKeys (stAt 21)).drop 403).take 13 = [x0, x1, x2, x3, x4, x5, x6, x7, x8, x9, x10, x11, x12] → List (Option Expr)) _ _ _ _ _ _ _ _ _ _ _ _ _ rfl
  exact fun x0 x1 x2 x3 x4 x5 x6 x7 x8 x9 x10 x11 x12 _ => [x0, x1, x2, x3, x4, x5, x6, x7, x8, x9, x10, x11, x12]
noncomputable def dv403 : List Expr := by
  refine (?g : ∀ x0 x1 x2 x3 x4 x5 x6 x7 x8 x9 x10 x11 x12, ((dVals (stAt 21)).drop 403).take 13 = [x0, x1, x2, x3, x4, x5, x6, x7, x8, x9, x10, x11, x12] → List Expr) _ _ _ _ _ _ _ _ _ _ _ _ _ rfl
  exact fun x0 x1 x2 x3 x4 x5 x6 x7 x8 x9 x10 x11 x12 _ => [x0, x1, x2, x3, x4, x5, x6, x7, x8, x9, x10, x11, x12]
noncomputable def dk416 : List (Option Expr) := by
  refine (?g : ∀ x0 x1 x2 x3 x4 x5 x6 x7 x8 x9 x10 x11 x12, ((dKeys (stAt 21)).drop 416).take 13 = [x0, x1, x2, x3, x4, x5, x6, x7, x8, x9, x10, x11, x12] → List (Option Expr)) _ _ _ _ _ _ _ _ _ _ _ _ _ rfl
  exact fun x0 x1 x2 x3 x4 x5 x6 x7 x8 x9 x10 x11 x12 _ => [x0, x1, x2, x3, x4, x5, x6, x7, x8, x9, x10, x11, x12]
noncomputable def dv416 : List Expr := by
  refine (?g : ∀ x0 x1 x2 x3 x4 x5 x6 x7 x8 x9 x10 x11 x12, ((dVals (stAt 21)).drop 416).take 13 = [x0, x1, x2, x3, x4, x5, x6, x7, x8, x9, x10, x11, x12] → List Expr) _ _ _ _ _ _ _ _ _ _ _ _ _ rfl
  exact fun x0 x1 x2 x3 x4 x5 x6 x7 x8 x9 x10 x11 x12 _ => [x0, x1, x2, x3, x4, x5, x6, x7, x8, x9, x10, x11, x12]
noncomputable def dk429 : List (Option Expr) := by
  refine (?g : ∀ x0 x1 x2 x3 x4 x5 x6 x7 x8 x9 x10 x11 x12, ((dKeys (stAt 21)).drop 429).take 13 = [x0, x1, x2, x3, x4, x5, x6, x7, x8, x9, x10, x11, x12] → List (Option Expr)) _ _ _ _ _ _ _ _ _ _ _ _ _ rfl
  exact fun x0 x1 x2 x3 x4 x5 x6 x7 x8 x9 x10 x11 x12 _ => [x0, x1, x2, x3, x4, x5, x6, x7, x8, x9, x10, x11, x12]
noncomputable def dv429 : List Expr := by
  refine (?g : ∀ x0 x1 x2 x3 x4 x5 x6 x7 x8 x9 x10 x11 x12, ((dVals (stAt 21)).drop 429).take 13 = [x0, x1, x2, x3, x4, x5, x6, x7, x8, x9, x10, x11, x12] → List Expr) _ _ _ _ _ _ _ _ _ _ _ _ _ rfl
  exact fun x0 x1 x2 x3 x4 x5 x6 x7 x8 x9 x10 x11 x12 _ => [x0, x1, x2, x3, x4, x5, x6, x7, x8, x9, x10, x11, x12]
noncomputable def dk442 : List (Option Expr) := by
  refine (?g : ∀ x0 x1 x2 x3 x4 x5 x6 x7 x8 x9 x10 x11 x12, ((dKeys (stAt 21)).drop 442).take 13 = [x0, x1, x2, x3, x4, x5, x6, x7, x8, x9, x10, x11, x12] → List (Option Expr)) _ _ _ _ _ _ _ _ _ _ _ _ _ rfl
  exact fun x0 x1 x2 x3 x4 x5 x6 x7 x8 x9 x10 x11 x12 _ => [x0, x1, x2, x3, x4, x5, x6, x7, x8, x9, x10, x11, x12]
noncomputable def dv442 : List Expr := by
  refine (?g : ∀ x0 x1 x2 x3 x4 x5 x6 x7 x8 x9 x10 x11 x12, ((dVals (stAt 21)).drop 442).take 13 = [x0, x1, x2, x3, x4, x5, x6, x7, x8, x9, x10, x11, x12] → List Expr) _ _ _ _ _ _ _ _ _ _ _ _ _ rfl
  exact fun x0 x1 x2 x3 x4 x5 x6 x7 x8 x9 x10 x11 x12 _ => [x0, x1, x2, x3, x4, x5, x6, x7, x8, x9, x10, x11, x12]
noncomputable def dk455 : List (Option Expr) := by
  refine (?g : ∀ x0 x1 x2 x3 x4 x5 x6 x7 x8 x9 x10 x11 x12, ((dKeys (stAt 21)).drop 455).take 13 = [x0, x1, x2, x3, x4, x5, x6, x7, x8, x9, x10, x11, x12] → List (Option Expr)) _ _ _ _ _ _ _ _ _ _ _ _ _ rfl
  exact fun x0 x1 x2 x3 x4 x5 x6 x7 x8 x9 x10 x11 x12 _ => [x0, x1, x2, x3, x4, x5, x6, x7, x8, x9, x10, x11, x12]
noncomputable def dv455 : List Expr := by
  refine (?g : ∀ x0 x1 x2 x3 x4 x5 x6 x7 x8 x9 x10 x11 x12, ((dVals (stAt 21)).drop 455).take 13 = [x0, x1, x2, x3, x4, x5, x6, x7, x8, x9, x10, x11, x12] → List Expr) _ _ _ _ _ _ _ _ _ _ _ _ _ rfl
  exact fun x0 x1 x2 x3 x4 x5 x6 x7 x8 x9 x10 x11 x12 _ => [x0, x1, x2, x3, x4, x5, x6, x7, x8, x9, x10, x11, x12]
noncomputable def dk468 : List (Option Expr) := by
  refine (?g : ∀ x0 x1 x2 x3 x4 x5 x6 x7 x8 x9 x10 x11 x12, ((dKeys (stAt 21)).drop 468).take 13 = [x0, x1, x2, x3, x4, x5, x6, x7, x8, x9, x10, x11, x12] → List (Option Expr)) _ _ _ _ _ _ _ _ _ _ _ _ _ rfl
  exact fun x0 x1 x2 x3 x4 x5 x6 x7 x8 x9 x10 x11 x12 _ => [x0, x1, x2, x3, x4, x5, x6, x7, x8, x9, x10, x11, x12]
noncomputable def dv468 : List Expr := by
  refine (?g : ∀ x0 x1 x2 x3 x4 x5 x6 x7 x8 x9 x10 x11 x12, ((dVals (stAt 21)).drop 468).take 13 = [x0, x1, x2, x3, x4, x5, x6, x7, x8, x9, x10, x11, x12] → List Expr) _ _ _ _ _ _ _ _ _ _ _ _ _ rfl
  exact fun x0 x1 x2 x3 x4 x5 x6 x7 x8 x9 x10 x11 x12 _ => [x0, x1, x2, x3, x4, x5, x6, x7, x8, x9, x10, x11, x12]
noncomputable def dk481 : List (Option Expr) := by
  refine (?g : ∀ x0 x1 x2 x3 x4 x5 x6 x7 x8 x9 x10 x11 x12, ((dKeys (stAt 21)).drop 481).take 13 = [x0, x1, x2, x3, x4, x5, x6, x7, x8, x9, x10, x11, x12] → List (Option Expr)) _ _ _ _ _ _ _ _ _ _ _ _ _ rfl
  exact fun x0 x1 x2 x3 x4 x5 x6 x7 x8 x9 x10 x11 x12 _ => [x0, x1, x2, x3, x4, x5, x6, x7, x8, x9, x10, x11, x12]
noncomputable def dv481 : List Expr := by
  refine (?g : ∀ x0 x1 x2 x3 x4 x5 x6 x7 x8 x9 x10 x11 x12, ((dVals (stAt 21)).drop 481).take 13 = [x0, x1, x2, x3, x4, x5, x6, x7, x8, x9, x10, x11, x12] → List Expr) _ _ _ _ _ _ _ _ _ _ _ _ _ rfl
  exact fun x0 x1 x2 x3 x4 x5 x6 x7 x8 x9 x10 x11 x12 _ => [x0, x1, x2, x3, x4, x5, x6, x7, x8, x9, x10, x11, x12]
noncomputable def dk494 : List (Option Expr) := by
  refine (?g : ∀ x0 x1 x2 x3 x4 x5 x6 x7 x8 x9 x10 x11 x12, ((dKeys (stAt 21)).drop 494).take 13 = [x0, x1, x2, x3, x4, x5, x6, x7, x8, x9, x10, x11, x12] → List (Option Expr)) _ _ _ _ _ _ _ _ _ _ _ _ _ rfl
  exact fun x0 x1 x2 x3 x4 x5 x6 x7 x8 x9 x10 x11 x12 _ => [x0, x1, x2, x3, x4, x5, x6, x7, x8, x9, x10, x11, x12]
noncomputable def dv494 : List Expr := by
  refine (?g : ∀ x0 x1 x2 x3 x4 x5 x6 x7 x8 x9 x10 x11 x12, ((dVals (stAt 21)).drop 494).take 13 = [x0, x1, x2, x3, x4, x5, x6, x7, x8, x9, x10, x11, x12] → List Expr) _ _ _ _ _ _ _ _ _ _ _ _ _ rfl
  exact fun x0 x1 x2 x3 x4 x5 x6 x7 x8 x9 x10 x11 x12 _ => [x0, x1, x2, x3, x4, x5, x6, x7, x8, x9, x10, x11, x12]
noncomputable def dk507 : List (Option Expr) := by
  refine (?g : ∀ x0 x1 x2 x3 x4 x5 x6 x7 x8 x9 x10 x11 x12, ((dKeys (stAt 21)).drop 507).take 13 = [x0, x1, x2, x3, x4, x5, x6, x7, x8, x9, x10, x11, x12] → List (Option Expr)) _ _ _ _ _ _ _ _ _ _ _ _ _ rfl
  exact fun x0 x1 x2 x3 x4 x5 x6 x7 x8 x9 x10 x11 x12 _ => [x0, x1, x2, x3, x4, x5, x6, x7, x8, x9, x10, x11, x12]
noncomputable def dv507 : List Expr := by
  refine (?g : ∀ x0 x1 x2 x3 x4 x5 x6 x7 x8 x9 x10 x11 x12, ((dVals (stAt 21)).drop 507).take 13 = [x0, x1, x2, x3, x4, x5, x6, x7, x8, x9, x10, x11, x12] → List Expr) _ _ _ _ _ _ _ _ _ _ _ _ _ rfl
  exact fun x0 x1 x2 x3 x4 x5 x6 x7 x8 x9 x10 x11 x12 _ => [x0, x1, x2, x3, x4, x5, x6, x7, x8, x9, x10, x11, x12]
noncomputable def dk520 : List (Option Expr) := by
  refine (?g : ∀ x0 x1 x2 x3 x4 x5 x6 x7 x8 x9 x10 x11 x12, ((dKeys (stAt 21)).drop 520).take 13 = [x0, x1, x2, x3, x4, x5, x6, x7, x8, x9, x10, x11, x12] → List (Option Expr)) _ _ _ _ _ _ _ _ _ _ _ _ _ rfl
  exact fun x0 x1 x2 x3 x4 x5 x6 x7 x8 x9 x10 x11 x12 _ => [x0, x1, x2, x3, x4, x5, x6, x7, x8, x9, x10, x11, x12]
noncomputable def dv520 : List Expr := by
  refine (?g : ∀ x0 x1 x2 x3 x4 x5 x6 x7 x8 x9 x10 x11 x12, ((dVals (stAt 21)).drop 520).take 13 = [x0, x1, x2, x3, x4, x5, x6, x7, x8, x9, x10, x11, x12] → List Expr) _ _ _ _ _ _ _ _ _ _ _ _ _ rfl
  exact fun x0 x1 x2 x3 x4 x5 x6 x7 x8 x9 x10 x11 x12 _ => [x0, x1, x2, x3, x4, x5, x6, x7, x8, x9, x10, x11, x12]
noncomputable def dk533 : List (Option Expr) := by
  refine (?g : ∀ x0 x1 x2 x3 x4 x5 x6 x7 x8 x9 x10 x11 x12, ((dKeys (stAt 21)).drop 533).take 13 = [x0, x1, x2, x3, x4, x5, x6, x7, x8, x9, x10, x11, x12] → List (Option Expr)) _ _ _ _ _ _ _ _ _ _ _ _ _ rfl
  exact fun x0 x1 x2 x3 x4 x5 x6 x7 x8 x9 x10 x11 x12 _ => [x0, x1, x2, x3, x4, x5, x6, x7, x8, x9, x10, x11, x12]
noncomputable def dv533 : List Expr := by
  refine (?g : ∀ x0 x1 x2 x3 x4 x5 x6 x7 x8 x9 x10 x11 x12, ((dVals (stAt 21)).drop 533).take 13 = [x0, x1, x2, x3, x4, x5, x6, x7, x8, x9, x10, x11, x12] → List Expr) _ _ _ _ _ _ _ _ _ _ _ _ _ rfl
  exact fun x0 x1 x2 x3 x4 x5 x6 x7 x8 x9 x10 x11 x12 _ => [x0, x1, x2, x3, x4, x5, x6, x7, x8, x9, x10, x11, x12]
noncomputable def dk546 : List (Option Expr) := by
  refine (?g : ∀ x0 x1 x2 x3 x4 x5 x6 x7 x8 x9 x10 x11 x12, ((dKeys (stAt 21)).drop 546).take 13 = [x0, x1, x2, x3, x4, x5, x6, x7, x8, x9, x10, x11, x12] → List (Option Expr)) _ _ _ _ _ _ _ _ _ _ _ _ _ rfl
  exact fun x0 x1 x2 x3 x4 x5 x6 x7 x8 x9 x10 x11 x12 _ => [x0, x1, x2, x3, x4, x5, x6, x7, x8, x9, x10, x11, x12]
noncomputable def dv546 : List Expr := by
  refine (?g : ∀ x0 x1 x2 x3 x4 x5 x6 x7 x8 x9 x10 x11 x12, ((dVals (stAt 21)).drop 546).take 13 = [x0, x1, x2, x3, x4, x5, x6, x7, x8, x9, x10, x11, x12] → List Expr) _ _ _ _ _ _ _ _ _ _ _ _ _ rfl
  exact fun x0 x1 x2 x3 x4 x5 x6 x7 x8 x9 x10 x11 x12 _ => [x0, x1, x2, x3, x4, x5, x6, x7, x8, x9, x10, x11, x12]
noncomputable def dk559 : List (Option Expr) := by
  refine (?g : ∀ x0 x1 x2 x3 x4 x5 x6 x7 x8 x9 x10 x11 x12, ((dKeys (stAt 21)).drop 559).take 13 = [x0, x1, x2, x3, x4, x5, x6, x7, x8, x9, x10, x11, x12] → List (Option Expr)) _ _ _ _ _ _ _ _ _ _ _ _ _ rfl
  exact fun x0 x1 x2 x3 x4 x5 x6 x7 x8 x9 x10 x11 x12 _ => [x0, x1, x2, x3, x4, x5, x6, x7, x8, x9, x10, x11, x12]
noncomputable def dv559 : List Expr := by
  refine (?g : ∀ x0 x1 x2 x3 x4 x5 x6 x7 x8 x9 x10 x11 x12, ((dVals (stAt 21)).drop 559).take 13 = [x0, x1, x2, x3, x4, x5, x6, x7, x8, x9, x10, x11, x12] → List Expr) _ _ _ _ _ _ _ _ _ _ _ _ _ rfl
  exact fun x0 x1 x2 x3 x4 x5 x6 x7 x8 x9 x10 x11 x12 _ => [x0, x1, x2, x3, x4, x5, x6, x7, x8, x9, x10, x11, x12]
noncomputable def dk572 : List (Option Expr) := by
  refine (?g : ∀ x0 x1 x2 x3 x4 x5 x6 x7 x8 x9 x10 x11 x12, ((dKeys (stAt 21)).drop 572).take 13 = [x0, x1, x2, x3, x4, x5, x6, x7, x8, x9, x10, x11, x12] → List (Option Expr)) _ _ _ _ _ _ _ _ _ _ _ _ _ rfl
  exact fun x0 x1 x2 x3 x4 x5 x6 x7 x8 x9 x10 x11 x12 _ => [x0, x1, x2, x3, x4, x5, x6, x7, x8, x9, x10, x11, x12]
noncomputable def dv572 : List Expr := by
  refine (?g : ∀ x0 x1 x2 x3 x4 x5 x6 x7 x8 x9 x10 x11 x12, ((dVals (stAt 21)).drop 572).take 13 = [x0, x1, x2, x3, x4, x5, x6, x7, x8, x9, x10, x11, x12] → List Expr) _ _ _ _ _ _ _ _ _ _ _ _ _ rfl
  exact fun x0 x1 x2 x3 x4 x5 x6 x7 x8 x9 x10 x11 x12 _ => [x0, x1, x2, x3, x4, x5, x6, x7, x8, x9, x10, x11, x12]
noncomputable def dk585 : List (Option Expr) := by
  refine (?g : ∀ x0 x1 x2 x3 x4 x5 x6 x7 x8 x9 x10 x11 x12, ((dKeys (stAt 21)).drop 585).take 13 = [x0, x1, x2, x3, x4, x5, x6, x7, x8, x9, x10, x11, x12] → List (Option Expr)) _ _ _ _ _ _ _ _ _ _ _ _ _ rfl
  exact fun x0 x1 x2 x3 x4 x5 x6 x7 x8 x9 x10 x11 x12 _ => [x0, x1, x2, x3, x4, x5, x6, x7, x8, x9, x10, x11, x12]
noncomputable def dv585 : List Expr := by
  refine (?g : ∀ x0 x1 x2 x3 x4 x5 x6 x7 x8 x9 x10 x11 x12, ((dVals (stAt 21)).drop 585).take 13 = [x0, x1, x2, x3, x4, x5, x6, x7, x8, x9, x10, x11, x12] → List Expr) _ _ _ _ _ _ _ _ _ _ _ _ _ rfl
  exact fun x0 x1 x2 x3 x4 x5 x6 x7 x8 x9 x10 x11 x12 _ => [x0, x1, x2, x3, x4, x5, x6, x7, x8, x9, x10, x11, x12]
noncomputable def dk598 : List (Option Expr) := by
  refine (?g : ∀ x0 x1 x2 x3 x4 x5 x6 x7 x8 x9 x10 x11 x12, ((dKeys (stAt 21)).drop 598).take 13 = [x0, x1, x2, x3, x4, x5, x6, x7, x8, x9, x10, x11, x12] → List (Option Expr)) _ _ _ _ _ _ _ _ _ _ _ _ _ rfl
  exact fun x0 x1 x2 x3 x4 x5 x6 x7 x8 x9 x10 x11 x12 _ => [x0, x1, x2, x3, x4, x5, x6, x7, x8, x9, x10, x11, x12]
noncomputable def dv598 : List Expr := by
  refine (?g : ∀ x0 x1 x2 x3 x4 x5 x6 x7 x8 x9 x10 x11 x12, ((dVals (stAt 21)).drop 598).take 13 = [x0, x1, x2, x3, x4, x5, x6, x7, x8, x9, x10, x11, x12] → List Expr) _ _ _ _ _ _ _ _ _ _ _ _ _ rfl
  exact fun x0 x1 x2 x3 x4 x5 x6 x7 x8 x9 x10 x11 x12 _ => [x0, x1, x2, x3, x4, x5, x6, x7, x8, x9, x10, x11, x12]
noncomputable def dk611 : List (Option Expr) := by
  refine (?g : ∀ x0 x1 x2 x3 x4 x5 x6 x7 x8 x9 x10 x11 x12, ((dKeys (stAt 21)).drop 611).take 13 = [x0, x1, x2, x3, x4, x5, x6, x7, x8, x9, x10, x11, x12] → List (Option Expr)) _ _ _ _ _ _ _ _ _ _ _ _ _ rfl
  exact fun x0 x1 x2 x3 x4 x5 x6 x7 x8 x9 x10 x11 x12 _ => [x0, x1, x2, x3, x4, x5, x6, x7, x8, x9, x10, x11, x12]
noncomputable def dv611 : List Expr := by
  refine (?g : ∀ x0 x1 x2 x3 x4 x5 x6 x7 x8 x9 x10 x11 x12, ((dVals (stAt 21)).drop 611).take 13 = [x0, x1, x2, x3, x4, x5, x6, x7, x8, x9, x10, x11, x12] → List Expr) _ _ _ _ _ _ _ _ _ _ _ _ _ rfl
  exact fun x0 x1 x2 x3 x4 x5 x6 x7 x8 x9 x10 x11 x12 _ => [x0, x1, x2, x3, x4, x5, x6, x7, x8, x9, x10, x11, x12]
noncomputable def dk624 : List (Option Expr) := by
  refine (?g : ∀ x0 x1 x2 x3 x4 x5 x6 x7 x8 x9 x10 x11 x12, ((dKeys (stAt 21)).drop 624).take 13 = [x0, x1, x2, x3, x4, x5, x6, x7, x8, x9, x10, x11, x12] → List (Option Expr)) _ _ _ _ _ _ _ _ _ _ _ _ _ rfl
  exact fun x0 x1 x2 x3 x4 x5 x6 x7 x8 x9 x10 x11 x12 _ => [x0, x1, x2, x3, x4, x5, x6, x7, x8, x9, x10, x11, x12]
noncomputable def dv624 : List Expr := by
  refine (?g : ∀ x0 x1 x2 x3 x4 x5 x6 x7 x8 x9 x10 x11 x12, ((dVals (stAt 21)).drop 624).take 13 = [x0, x1, x2, x3, x4, x5, x6, x7, x8, x9, x10, x11, x12] → List Expr) _ _ _ _ _ _ _ _ _ _ _ _ _ rfl
  exact fun x0 x1 x2 x3 x4 x5 x6 x7 x8 x9 x10 x11 x12 _ => [x0, x1, x2, x3, x4, x5, x6, x7, x8, x9, x10, x11, x12]
noncomputable def dk637 : List (Option Expr) := by
  refine (?g : ∀ x0 x1 x2 x3 x4 x5 x6 x7 x8 x9 x10 x11 x12, ((dKeys (stAt 21)).drop 637).take 13 = [x0, x1, x2, x3, x4, x5, x6, x7, x8, x9, x10, x11, x12] → List (Option Expr)) _ _ _ _ _ _ _ _ _ _ _ _ _ rfl
  exact fun x0 x1 x2 x3 x4 x5 x6 x7 x8 x9 x10 x11 x12 _ => [x0, x1, x2, x3, x4, x5, x6, x7, x8, x9, x10, x11, x12]
noncomputable def dv637 : List Expr := by
  refine (?g : ∀ x0 x1 x2 x3 x4 x5 x6 x7 x8 x9 x10 x11 x12, ((dVals (stAt 21)).drop 637).take 13 = [x0, x1, x2, x3, x4, x5, x6, x7, x8, x9, x10, x11, x12] → List Expr) _ _ _ _ _ _ _ _ _ _ _ _ _ rfl
  exact fun x0 x1 x2 x3 x4 x5 x6 x7 x8 x9 x10 x11 x12 _ => [x0, x1, x2, x3, x4, x5, x6, x7, x8, x9, x10, x11, x12]
noncomputable def fl21 : Stmt := by
  refine (?g : ∀ t k v q p, stAt 21 = Stmt.Assign t (.Dict k v q) p → Stmt) _ _ _ _ _ rfl
  exact fun t k v q p _ => Stmt.Assign tg21 (.Dict (dk0 ++ (dk13 ++ (dk26 ++ (dk39 ++ (dk52 ++ (dk65 ++ (dk78 ++ (dk91 ++ (dk104 ++ (dk117 ++ (dk130 ++ (dk143 ++ (dk156 ++ (dk169 ++ (dk182 ++ (dk195 ++ (dk208 ++ (dk221 ++ (dk234 ++ (dk247 ++ (dk260 ++ (dk273 ++ (dk286 ++ (dk299 ++ (dk312 ++ (dk325 ++ (dk338 ++ (dk351 ++ (dk364 ++ (dk377 ++ (dk390 ++ (dk403 ++ (dk416 ++ (dk429 ++ (dk442 ++ (dk455 ++ (dk468 ++ (dk481 ++ (dk494 ++ (dk507 ++ (dk520 ++ (dk533 ++ (dk546 ++ (dk559 ++ (dk572 ++ (dk585 ++ (dk598 ++ (dk611 ++ (dk624 ++ (dk637)))))))))))))))))))))))))))))))))))))))))))))))))) (dv0 ++ (dv13 ++ (dv26 ++ (dv39 ++ (dv52 ++ (dv65 ++ (dv78 ++ (dv91 ++ (dv104 ++ (dv117 ++ (dv130 ++ (dv143 ++ (dv156 ++ (dv169 ++ (dv182 ++ (dv195 ++ (dv208 ++ (dv221 ++ (dv234 ++ (dv247 ++ (dv260 ++ (dv273 ++ (dv286 ++ (dv299 ++ (dv312 ++ (dv325 ++ (dv338 ++ (dv351 ++ (dv364 ++ (dv377 ++ (dv390 ++ (dv403 ++ (dv416 ++ (dv429 ++ (dv442 ++ (dv455 ++ (dv468 ++ (dv481 ++ (dv494 ++ (dv507 ++ (dv520 ++ (dv533 ++ (dv546 ++ (dv559 ++ (dv572 ++ (dv585 ++ (dv598 ++ (dv611 ++ (dv624 ++ (dv637)))))))))))))))))))))))))))))))))))))))))))))))))) q) p
noncomputable def dT : Nat → Stmt := fun _ => .Pass ⟨0, 0, 0, 0⟩
noncomputable def pwp : Program := ⟨⟨[sk0, fl1, sk2 dT dT, sk3 dT dT, fl4, fl5, fl6, sk7 dT dT, fl8, fl9, fl10, sk11 dT dT, fl12, sk13 dT dT, sk14 dT dT, sk15 dT dT, sk16 dT dT, fl17, sk18 dT dT, sk19 dT dT, fl20, fl21, fl22, sk23 dT dT, fl24, fl25, fl26, fl27, fl28, fl29], msc, mfu, mfi, []⟩, [], [], [], [], gvn⟩
theorem pwp_eq : pwp = PySem.Challenge.pw_ta0038_01 := by kernel_rfl!
noncomputable def rwp : OpenLaw := by
  refine (?g : ∀ p n a f m b w, PySem.Challenge.rw_ta0038_01 = OpenLaw.mk p n a f m b w → OpenLaw) _ _ _ _ _ _ _ rfl
  exact fun p n a f m b w _ => OpenLaw.mk pwp n a f m b w
theorem rwp_eq : rwp = PySem.Challenge.rw_ta0038_01 := by kernel_rfl!
theorem said_of (h : rwp.row.wellSaid = true → rwp.row.Holds) : rwp.Holds := by
  w_on
  o_law
  exact h (by assumption)
noncomputable def XPz : (Str → Option Value) → Heap → Prop := fun _ _ => True
noncomputable def YPz (w : World) (h : Heap) : Prop := ∀ b o, (H7 w.params).get? b = some o → h.get? b = some o
set_option maxHeartbeats 8000000 in
theorem glue (walk : ∀ (d : DefRec) (kwd : List (Str × Expr)), defOf qv ("law" : Str) = some (d, kwd) → WalkO qv loosez XPz YPz (OpenRow.toRowW (OpenLaw.row PySem.Challenge.rw_ta0038_01)) d kwd fun f vs => PySem.call f vs) : PySem.Challenge.rw_ta0038_01.Holds := by
  refine rwp_eq ▸ said_of ?_
  rw [rwp_eq]
  intro said
  refine holds_open (q := qv) (loose := loosez) (Xt := fun _ => true) (XP := XPz) (Yf := fun s => s.heap) (Ya := fun w => H7 w.params) (YP := YPz) (N := 40000) leftO (fun w s e => ?k0) (fun w h h' y k b o e => k _ _ (y b o e)) (fun _ _ => trivial) (fun _ _ _ _ _ => trivial)
    (by rfl) (by rfl) (by rfl) (fun s e => recFacts_of rfl) (by rfl) said (by decide +kernel) ⟨rfl, rfl, rfl, rfl, rfl, by decide +kernel⟩ ?hw ?hc
  case k0 => intro b o h; rw [show s.heap = H7 w.params from e]; exact h
  case hw => w_witness2
  case hc => exact walk _ _ (by rfl)
end Mine
end P_HeadG
section P_Wk0
open PySem PySem.W PySem.Calls PyProof.Rows
set_option linter.unusedVariables false
set_option maxRecDepth 100000
namespace Mine
theorem clipN (n L : Nat) : (max 0 (min (n : Int) (L : Int))).toNat = min n L := by
  rcases Nat.le_total n L with h | h
  · rw [Nat.min_eq_left h, Int.min_eq_left (Int.ofNat_le.mpr h), Int.max_eq_right (Int.natCast_nonneg _), Int.toNat_natCast]
  · rw [Nat.min_eq_right h, Int.min_eq_right (Int.ofNat_le.mpr h), Int.max_eq_right (Int.natCast_nonneg _), Int.toNat_natCast]
theorem clipP {p : Int} (h0 : 0 ≤ p) (L : Nat) : (max 0 (min (if p < 0 then p + (L : Int) else p) (L : Int))).toNat = min p.toNat L := by
  rw [if_neg (Int.not_lt.mpr h0)]
  obtain ⟨n, rfl⟩ := Int.eq_ofNat_of_zero_le h0
  exact clipN n L
theorem clipM (L : Nat) : (max 0 (min (if (-1 : Int) < 0 then (-1 : Int) + (L : Int) else -1) (L : Int))).toNat = L - 1 := by
  rw [if_pos (by decide)]
  cases L with
  | zero => rfl
  | succ n =>
    rw [show (-1 : Int) + ((n + 1 : Nat) : Int) = (n : Int) by omega, clipN, Nat.min_eq_left (Nat.le_succ n)]; rfl
theorem sumq {a b p q : Nat} (e1 : a = min p q) (e2 : b = q - p) : a + b = q := by
  rw [e1, e2]
  rcases Nat.le_total p q with h | h
  · rw [Nat.min_eq_left h, Nat.add_sub_cancel' h]
  · rw [Nat.min_eq_right h, Nat.sub_eq_zero_of_le h]; rfl
noncomputable abbrev pw := PySem.Challenge.pw_ta0038_01
noncomputable def YP (w : World) (h : Heap) : Prop := ∀ b o, (H7 w.params).get? b = some o → h.get? b = some o
theorem YP.up {w : World} {h h' : Heap} (y : YP w h) (k : ∀ b o, h.get? b = some o → h'.get? b = some o) : YP w h' := fun b o e => k _ _ (y b o e)
theorem YP.fr {w : World} {h₀ h : Heap} {L : Addr} {m : Str → Option Value} (y : YP w h₀) (F : Fr h₀ L h m) : YP w h := y.up F.keep
noncomputable def esOf (o : Obj) : Array DictEntry := match o.data with | .dict es _ => es | _ => #[]
noncomputable def mg (P : Params) : Str → Option Value := fun x => nsFind (esOf (o3_7 P)) x
noncomputable def mb (P : Params) : Str → Option Value := fun x => nsFind (esOf (o0_0 P)) x
noncomputable def strKeys (es : List DictEntry) : Bool := es.all fun e => match e.key with | .str _ _ => true | _ => false
theorem strKeys_of {es : Array DictEntry} (h : strKeys es.toList = true) : StrKeys es := fun e he => by
  have := List.all_eq_true.mp h e (Array.mem_toList_iff.mpr he)
  revert this
  cases e.key <;> simp
theorem nsG {w : World} {h : Heap} (y : YP w h) : h.Ns mainGlobals (mg w.params) := ⟨o3_7 w.params, _, _, y 3 _ (by rfl), by rfl, strKeys_of (by rfl), fun _ => rfl⟩
theorem nsB {w : World} {h : Heap} (y : YP w h) : h.Ns builtinsNs (mb w.params) := ⟨o0_0 w.params, _, _, y 0 _ (by rfl), by rfl, strKeys_of (by rfl), fun _ => rfl⟩
theorem noLim {w : World} {h : Heap} (y : YP w h) : h.NoLimit := ⟨fun x => nsFind (esOf (o2_0 w.params)) x, ⟨_, _, _, y 2 _ (by rfl), by rfl, strKeys_of (by rfl), fun _ => rfl⟩, by rfl⟩
theorem code_of {w : World} {h : Heap} (y : YP w h) (a : Addr) (q : Str) (hh : ∃ o vs t, (H7 w.params).get? a = some o ∧ o.data = .fields vs ∧ vs[1]? = some (.str q t)) : h.CodeRec (.ref a) q :=
  let ⟨o, vs, t, e, d, g⟩ := hh; ⟨a, o, vs, t, rfl, y _ _ e, d, g⟩

/-- what a call of the text's own leaves: only heap and tokens moved, all old objects stand -/
structure Ret (s : Shared) (P : Value → Heap → Prop) (v : Value) (s' : Shared) : Prop where
  keeps : Keeps s s'
  post : P v s'.heap
noncomputable def Con {α : Type} (M : Model) (A : Around) (t : Sem Value) (s : Shared) (P : Value → Heap → Prop) : Prop := ∀ E, wpAny M A t (Ret s P) E s
structure Room (A : Around) (k : Nat) : Prop where
  handled : A.handled = none
  depth : A.depth + k < recursionLimit
  units : A.units + 8 * k < cLine
theorem Room.deep {A : Around} {k : Nat} {env : Env} (r : Room A (k + 1)) : Room (A.deeper env) k := ⟨r.1, by have := r.2; show A.depth + 1 + k < _; omega, by have := r.3; show A.units + 3 + 8 * k < _; omega⟩
theorem Room.here {A : Around} {k : Nat} (r : Room A k) : A.depth < recursionLimit := by have := r.2; omega
theorem Room.le {A : Around} {k j : Nat} (r : Room A k) (h : j ≤ k) : Room A j := ⟨r.1, by have := r.2; omega, by have := r.3; omega⟩
section
variable {w : World} {A : Around} {E : Value → Shared → Prop} {s : Shared} {h₀ : Heap} {L : Addr} {m : Str → Option Value} {news : List (Addr × Obj)} {P : Value → Heap → Prop} {t : Sem Value} {Q : Value → Shared → Prop} {M : Model}
theorem useC (F : Fr h₀ L s.heap m) (N : News h₀ L s.heap news) (c : wpAny M A t (Ret s P) E s)
    (k : ∀ v h' tk', P v h' → Fr h₀ L h' m → News h₀ L h' news → Q v { s with heap := h', toks := tk' }) : wpAny M A t Q E s := by
  refine wpAny_mono c (fun v s' r => ?_) fun _ _ x => x
  obtain ⟨⟨h', tk', rfl, hk⟩, hp⟩ := r
  exact k v h' tk' hp (F.keeps hk) fun p hp => ⟨hk _ _ (N p hp).1, (N p hp).2⟩
theorem useI {i : Int} (F : Fr h₀ L s.heap m) (N : News h₀ L s.heap news) (c : wpAny M A t (Ret s (fun v _ => ∃ t, v = .int i t)) E s)
    (k : ∀ t h' tk', Fr h₀ L h' m → News h₀ L h' news → Q (.int i t) { s with heap := h', toks := tk' }) : wpAny M A t Q E s :=
  useC F N c fun v h' tk' hp F' N' => by obtain ⟨t, rfl⟩ := hp; exact k t h' tk' F' N'
theorem useS {i : Str} (F : Fr h₀ L s.heap m) (N : News h₀ L s.heap news) (c : wpAny M A t (Ret s (fun v _ => ∃ t, v = .str i t)) E s)
    (k : ∀ t h' tk', Fr h₀ L h' m → News h₀ L h' news → Q (.str i t) { s with heap := h', toks := tk' }) : wpAny M A t Q E s :=
  useC F N c fun v h' tk' hp F' N' => by obtain ⟨t, rfl⟩ := hp; exact k t h' tk' F' N'
theorem useB {i : Array UInt8} (F : Fr h₀ L s.heap m) (N : News h₀ L s.heap news) (c : wpAny M A t (Ret s (fun v _ => ∃ t, v = .bytes i t)) E s)
    (k : ∀ t h' tk', Fr h₀ L h' m → News h₀ L h' news → Q (.bytes i t) { s with heap := h', toks := tk' }) : wpAny M A t Q E s :=
  useC F N c fun v h' tk' hp F' N' => by obtain ⟨t, rfl⟩ := hp; exact k t h' tk' F' N'
theorem useT {b : Bool} (F : Fr h₀ L s.heap m) (N : News h₀ L s.heap news) (c : wpAny M A t (Ret s (fun v _ => v = .bool b)) E s)
    (k : ∀ h' tk', Fr h₀ L h' m → News h₀ L h' news → Q (.bool b) { s with heap := h', toks := tk' }) : wpAny M A t Q E s :=
  useC F N c fun v h' tk' hp F' N' => by subst hp; exact k h' tk' F' N'
theorem done_at {v : Value} {h' : Heap} {tk' : Nat} (F : Fr s.heap L h' m) (p : P v h') : Ret s P v { s with heap := h', toks := tk' } := ⟨⟨h', tk', rfl, F.keep⟩, p⟩
end
section
variable {w : World} {A : Around} {E : Value → Shared → Prop} {s : Shared}
theorem enterF {k : Nat} {a c : Addr} {args : Args} {binds : List (Str × Value)} {P : Value → Heap → Prop} {o : Obj} (name qual : Str) (st : Stmt) (kV pm : Value) (r : Room A (k + 1)) (y : YP w s.heap)
    (ho : (H7 w.params).get? a = some o)
    (hdata : o.data = .func { name := name, qualname := qual, params := fnArgs st, body := .stmts (fnBody st), scope := fnScope st, globals := 3, closure := [], defaults := .none, kwdefaults := kV, doc := .none, pyModule := pm, annotations := none, code := .ref c, closureTuple := .none, builtins := 0 })
    (hcode : ∃ o vs t, (H7 w.params).get? c = some o ∧ o.data = .fields vs ∧ vs[1]? = some (.str qual t))
    (hbind : BindsTo s { name := name, qualname := qual, params := fnArgs st, body := .stmts (fnBody st), scope := fnScope st, globals := 3, closure := [], defaults := .none, kwdefaults := kV, doc := .none, pyModule := pm, annotations := none, code := .ref c, closureTuple := .none, builtins := 0 } args binds)
    (hloc : ∀ x ∈ binds, (fnScope st).names.lookup x.1 = some .local)
    (hsc : (fnScope st).isCoroutine = false ∧ (fnScope st).isGenerator = false ∧ (fnScope st).kind = .function ∧ ((fnScope st).names.all fun x => x.2 != .cell) = true)
    (h : ∀ h₁, Room (A.deeper (envOf qual (fnScope st) s.heap.objs.size a (.ref c))) k → Fr s.heap s.heap.objs.size h₁ (fun x => binds.reverse.lookup x) → News s.heap s.heap.objs.size h₁ [] →
      wpAny (model pw w) (A.deeper (envOf qual (fnScope st) s.heap.objs.size a (.ref c))) (execs (fnBody st) (envOf qual (fnScope st) s.heap.objs.size a (.ref c)))
        (fun f s' => Ret s P (match f with | .ret v => v | _ => .none) s') (fun _ _ => False) { s with heap := h₁, toks := s.toks + binds.length }) :
    wpAny (model pw w) A (call (.ref a) args.pos args.kw) (Ret s P) E s := by
  refine wpAny_call (codeAny_call_def r.here (y _ _ ho) hdata (noLim y) (code_of y c qual hcode) rfl hbind (fun x hx => ?_) hloc (fun h₀ hn hk => ?_) hsc.1 hsc.2.1 hsc.2.2.1)
  · have := List.all_eq_true.mp hsc.2.2.2 x hx
    intro e
    rw [e] at this
    exact absurd this (by decide)
  · exact wpAny_mono (h h₀ r.deep ⟨hn, hk, Nat.le_refl _⟩ News.nil) (fun _ _ x => x) fun _ _ x => x.elim
end
noncomputable def b64Bytes : Array UInt8 := ("ABCDEFGHIJKLMNOPQRSTUVWXYZabcdefghijklmnopqrstuvwxyz0123456789+/".toList.map fun c => c.toNat.toUInt8).toArray
theorem g_ascii_buffer (P : Params) : mg P (Str.ofString "_ascii_buffer") = some (.ref 58) := by kernel_rfl
theorem g_buffer (P : Params) : mg P (Str.ofString "_buffer") = some (.ref 65) := by kernel_rfl
theorem g_truth (P : Params) : mg P (Str.ofString "_truth") = some (.ref 72) := by kernel_rfl
theorem g_b64_value (P : Params) : mg P (Str.ofString "_b64_value") = some (.ref 79) := by kernel_rfl
theorem g_a2b_base64 (P : Params) : mg P (Str.ofString "a2b_base64") = some (.ref 87) := by kernel_rfl
theorem g_b2a_base64 (P : Params) : mg P (Str.ofString "b2a_base64") = some (.ref 95) := by kernel_rfl
theorem g_Authenticator (P : Params) : mg P (Str.ofString "_Authenticator") = some (.ref 133) := by kernel_rfl
theorem g_twin_re_1 (P : Params) : mg P (Str.ofString "_twin_re_1") = some (.ref 142) := by kernel_rfl
theorem g_twin_re_2 (P : Params) : mg P (Str.ofString "_twin_re_2") = some (.ref 147) := by kernel_rfl
theorem g_quotedata (P : Params) : mg P (Str.ofString "quotedata") = some (.ref 154) := by kernel_rfl
theorem g_b1_set (P : Params) : mg P (Str.ofString "b1_set") = some (.ref 162) := by kernel_rfl
theorem g_in_table_b1 (P : Params) : mg P (Str.ofString "in_table_b1") = some (.ref 172) := by kernel_rfl
theorem g_b3_exceptions (P : Params) : mg P (Str.ofString "b3_exceptions") = some (.ref 173) := by kernel_rfl
theorem g_map_table_b3 (P : Params) : mg P (Str.ofString "map_table_b3") = some (.ref 218) := by kernel_rfl
theorem g_law_piece (P : Params) : mg P (Str.ofString "_law_piece") = some (.ref 225) := by kernel_rfl
theorem g_law_rows (P : Params) : mg P (Str.ofString "_law_rows") = some (.ref 232) := by kernel_rfl
theorem g_law_in_fours (P : Params) : mg P (Str.ofString "_law_in_fours") = some (.ref 239) := by kernel_rfl
theorem g_law_prepares (P : Params) : mg P (Str.ofString "_law_prepares") = some (.ref 246) := by kernel_rfl
theorem g_law_sends (P : Params) : mg P (Str.ofString "_law_sends") = some (.ref 253) := by kernel_rfl
theorem g_B64 (P : Params) : mg P (Str.ofString "_B64") = some (.bytes (b64Bytes) 333) := by kernel_rfl
theorem g_CRLF (P : Params) : mg P (Str.ofString "CRLF") = some (.str (Str.ofString "\r\n") 491) := by kernel_rfl
theorem n_type (P : Params) : mg P (Str.ofString "type") = none := by kernel_rfl
theorem b_type (P : Params) : mb P (Str.ofString "type") = some (.type "type") := by kernel_rfl
theorem n_str (P : Params) : mg P (Str.ofString "str") = none := by kernel_rfl
theorem b_str (P : Params) : mb P (Str.ofString "str") = some (.type "str") := by kernel_rfl
theorem n_bytes (P : Params) : mg P (Str.ofString "bytes") = none := by kernel_rfl
theorem b_bytes (P : Params) : mb P (Str.ofString "bytes") = some (.type "bytes") := by kernel_rfl
theorem n_bytearray (P : Params) : mg P (Str.ofString "bytearray") = none := by kernel_rfl
theorem b_bytearray (P : Params) : mb P (Str.ofString "bytearray") = some (.type "bytearray") := by kernel_rfl
theorem n_bool (P : Params) : mg P (Str.ofString "bool") = none := by kernel_rfl
theorem b_bool (P : Params) : mb P (Str.ofString "bool") = some (.type "bool") := by kernel_rfl
theorem n_int (P : Params) : mg P (Str.ofString "int") = none := by kernel_rfl
theorem b_int (P : Params) : mb P (Str.ofString "int") = some (.type "int") := by kernel_rfl
theorem n_float (P : Params) : mg P (Str.ofString "float") = none := by kernel_rfl
theorem b_float (P : Params) : mb P (Str.ofString "float") = some (.type "float") := by kernel_rfl
theorem n_complex (P : Params) : mg P (Str.ofString "complex") = none := by kernel_rfl
theorem b_complex (P : Params) : mb P (Str.ofString "complex") = some (.type "complex") := by kernel_rfl
theorem n_list (P : Params) : mg P (Str.ofString "list") = none := by kernel_rfl
theorem b_list (P : Params) : mb P (Str.ofString "list") = some (.type "list") := by kernel_rfl
theorem n_tuple (P : Params) : mg P (Str.ofString "tuple") = none := by kernel_rfl
theorem b_tuple (P : Params) : mb P (Str.ofString "tuple") = some (.type "tuple") := by kernel_rfl
theorem n_dict (P : Params) : mg P (Str.ofString "dict") = none := by kernel_rfl
theorem b_dict (P : Params) : mb P (Str.ofString "dict") = some (.type "dict") := by kernel_rfl
theorem n_set (P : Params) : mg P (Str.ofString "set") = none := by kernel_rfl
theorem b_set (P : Params) : mb P (Str.ofString "set") = some (.type "set") := by kernel_rfl
theorem n_frozenset (P : Params) : mg P (Str.ofString "frozenset") = none := by kernel_rfl
theorem b_frozenset (P : Params) : mb P (Str.ofString "frozenset") = some (.type "frozenset") := by kernel_rfl
theorem n_range (P : Params) : mg P (Str.ofString "range") = none := by kernel_rfl
theorem b_range (P : Params) : mb P (Str.ofString "range") = some (.type "range") := by kernel_rfl
theorem n_ord (P : Params) : mg P (Str.ofString "ord") = none := by kernel_rfl
theorem b_ord (P : Params) : mb P (Str.ofString "ord") = some (.builtin "ord") := by kernel_rfl
theorem n_chr (P : Params) : mg P (Str.ofString "chr") = none := by kernel_rfl
theorem b_chr (P : Params) : mb P (Str.ofString "chr") = some (.builtin "chr") := by kernel_rfl
theorem n_len (P : Params) : mg P (Str.ofString "len") = none := by kernel_rfl
theorem b_len (P : Params) : mb P (Str.ofString "len") = some (.builtin "len") := by kernel_rfl
theorem n_isinstance (P : Params) : mg P (Str.ofString "isinstance") = none := by kernel_rfl
theorem b_isinstance (P : Params) : mb P (Str.ofString "isinstance") = some (.builtin "isinstance") := by kernel_rfl

section
variable {M : Model} {A : Around} {E : Value → Shared → Prop} {s : Shared} {name : Str} {scope : Scope} {L a : Addr} {cd : Value} {h₀ : Heap} {m : Str → Option Value} {w : World} {pos : Pos} {Q : Value → Shared → Prop}
theorem l_ascii_buffer (F : Fr h₀ L s.heap m) (y : YP w h₀) (hk : scope.kind = .function) (hx : (envOf name scope L a cd).kindOf (Str.ofString "_ascii_buffer") = some .globalImplicit) (h : Q (.ref 58) s) : wpAny M A (eval (.Name (Str.ofString "_ascii_buffer") pos) (envOf name scope L a cd)) Q E s := ld_global_at F (nsG y) (g_ascii_buffer _) h hk hx (by decide)
theorem l_buffer (F : Fr h₀ L s.heap m) (y : YP w h₀) (hk : scope.kind = .function) (hx : (envOf name scope L a cd).kindOf (Str.ofString "_buffer") = some .globalImplicit) (h : Q (.ref 65) s) : wpAny M A (eval (.Name (Str.ofString "_buffer") pos) (envOf name scope L a cd)) Q E s := ld_global_at F (nsG y) (g_buffer _) h hk hx (by decide)
theorem l_truth (F : Fr h₀ L s.heap m) (y : YP w h₀) (hk : scope.kind = .function) (hx : (envOf name scope L a cd).kindOf (Str.ofString "_truth") = some .globalImplicit) (h : Q (.ref 72) s) : wpAny M A (eval (.Name (Str.ofString "_truth") pos) (envOf name scope L a cd)) Q E s := ld_global_at F (nsG y) (g_truth _) h hk hx (by decide)
theorem l_b64_value (F : Fr h₀ L s.heap m) (y : YP w h₀) (hk : scope.kind = .function) (hx : (envOf name scope L a cd).kindOf (Str.ofString "_b64_value") = some .globalImplicit) (h : Q (.ref 79) s) : wpAny M A (eval (.Name (Str.ofString "_b64_value") pos) (envOf name scope L a cd)) Q E s := ld_global_at F (nsG y) (g_b64_value _) h hk hx (by decide)
theorem l_a2b_base64 (F : Fr h₀ L s.heap m) (y : YP w h₀) (hk : scope.kind = .function) (hx : (envOf name scope L a cd).kindOf (Str.ofString "a2b_base64") = some .globalImplicit) (h : Q (.ref 87) s) : wpAny M A (eval (.Name (Str.ofString "a2b_base64") pos) (envOf name scope L a cd)) Q E s := ld_global_at F (nsG y) (g_a2b_base64 _) h hk hx (by decide)
theorem l_b2a_base64 (F : Fr h₀ L s.heap m) (y : YP w h₀) (hk : scope.kind = .function) (hx : (envOf name scope L a cd).kindOf (Str.ofString "b2a_base64") = some .globalImplicit) (h : Q (.ref 95) s) : wpAny M A (eval (.Name (Str.ofString "b2a_base64") pos) (envOf name scope L a cd)) Q E s := ld_global_at F (nsG y) (g_b2a_base64 _) h hk hx (by decide)
theorem l_Authenticator (F : Fr h₀ L s.heap m) (y : YP w h₀) (hk : scope.kind = .function) (hx : (envOf name scope L a cd).kindOf (Str.ofString "_Authenticator") = some .globalImplicit) (h : Q (.ref 133) s) : wpAny M A (eval (.Name (Str.ofString "_Authenticator") pos) (envOf name scope L a cd)) Q E s := ld_global_at F (nsG y) (g_Authenticator _) h hk hx (by decide)
theorem l_twin_re_1 (F : Fr h₀ L s.heap m) (y : YP w h₀) (hk : scope.kind = .function) (hx : (envOf name scope L a cd).kindOf (Str.ofString "_twin_re_1") = some .globalImplicit) (h : Q (.ref 142) s) : wpAny M A (eval (.Name (Str.ofString "_twin_re_1") pos) (envOf name scope L a cd)) Q E s := ld_global_at F (nsG y) (g_twin_re_1 _) h hk hx (by decide)
theorem l_twin_re_2 (F : Fr h₀ L s.heap m) (y : YP w h₀) (hk : scope.kind = .function) (hx : (envOf name scope L a cd).kindOf (Str.ofString "_twin_re_2") = some .globalImplicit) (h : Q (.ref 147) s) : wpAny M A (eval (.Name (Str.ofString "_twin_re_2") pos) (envOf name scope L a cd)) Q E s := ld_global_at F (nsG y) (g_twin_re_2 _) h hk hx (by decide)
theorem l_quotedata (F : Fr h₀ L s.heap m) (y : YP w h₀) (hk : scope.kind = .function) (hx : (envOf name scope L a cd).kindOf (Str.ofString "quotedata") = some .globalImplicit) (h : Q (.ref 154) s) : wpAny M A (eval (.Name (Str.ofString "quotedata") pos) (envOf name scope L a cd)) Q E s := ld_global_at F (nsG y) (g_quotedata _) h hk hx (by decide)
theorem l_b1_set (F : Fr h₀ L s.heap m) (y : YP w h₀) (hk : scope.kind = .function) (hx : (envOf name scope L a cd).kindOf (Str.ofString "b1_set") = some .globalImplicit) (h : Q (.ref 162) s) : wpAny M A (eval (.Name (Str.ofString "b1_set") pos) (envOf name scope L a cd)) Q E s := ld_global_at F (nsG y) (g_b1_set _) h hk hx (by decide)
theorem l_in_table_b1 (F : Fr h₀ L s.heap m) (y : YP w h₀) (hk : scope.kind = .function) (hx : (envOf name scope L a cd).kindOf (Str.ofString "in_table_b1") = some .globalImplicit) (h : Q (.ref 172) s) : wpAny M A (eval (.Name (Str.ofString "in_table_b1") pos) (envOf name scope L a cd)) Q E s := ld_global_at F (nsG y) (g_in_table_b1 _) h hk hx (by decide)
theorem l_b3_exceptions (F : Fr h₀ L s.heap m) (y : YP w h₀) (hk : scope.kind = .function) (hx : (envOf name scope L a cd).kindOf (Str.ofString "b3_exceptions") = some .globalImplicit) (h : Q (.ref 173) s) : wpAny M A (eval (.Name (Str.ofString "b3_exceptions") pos) (envOf name scope L a cd)) Q E s := ld_global_at F (nsG y) (g_b3_exceptions _) h hk hx (by decide)
theorem l_map_table_b3 (F : Fr h₀ L s.heap m) (y : YP w h₀) (hk : scope.kind = .function) (hx : (envOf name scope L a cd).kindOf (Str.ofString "map_table_b3") = some .globalImplicit) (h : Q (.ref 218) s) : wpAny M A (eval (.Name (Str.ofString "map_table_b3") pos) (envOf name scope L a cd)) Q E s := ld_global_at F (nsG y) (g_map_table_b3 _) h hk hx (by decide)
theorem l_law_piece (F : Fr h₀ L s.heap m) (y : YP w h₀) (hk : scope.kind = .function) (hx : (envOf name scope L a cd).kindOf (Str.ofString "_law_piece") = some .globalImplicit) (h : Q (.ref 225) s) : wpAny M A (eval (.Name (Str.ofString "_law_piece") pos) (envOf name scope L a cd)) Q E s := ld_global_at F (nsG y) (g_law_piece _) h hk hx (by decide)
theorem l_law_rows (F : Fr h₀ L s.heap m) (y : YP w h₀) (hk : scope.kind = .function) (hx : (envOf name scope L a cd).kindOf (Str.ofString "_law_rows") = some .globalImplicit) (h : Q (.ref 232) s) : wpAny M A (eval (.Name (Str.ofString "_law_rows") pos) (envOf name scope L a cd)) Q E s := ld_global_at F (nsG y) (g_law_rows _) h hk hx (by decide)
theorem l_law_in_fours (F : Fr h₀ L s.heap m) (y : YP w h₀) (hk : scope.kind = .function) (hx : (envOf name scope L a cd).kindOf (Str.ofString "_law_in_fours") = some .globalImplicit) (h : Q (.ref 239) s) : wpAny M A (eval (.Name (Str.ofString "_law_in_fours") pos) (envOf name scope L a cd)) Q E s := ld_global_at F (nsG y) (g_law_in_fours _) h hk hx (by decide)
theorem l_law_prepares (F : Fr h₀ L s.heap m) (y : YP w h₀) (hk : scope.kind = .function) (hx : (envOf name scope L a cd).kindOf (Str.ofString "_law_prepares") = some .globalImplicit) (h : Q (.ref 246) s) : wpAny M A (eval (.Name (Str.ofString "_law_prepares") pos) (envOf name scope L a cd)) Q E s := ld_global_at F (nsG y) (g_law_prepares _) h hk hx (by decide)
theorem l_law_sends (F : Fr h₀ L s.heap m) (y : YP w h₀) (hk : scope.kind = .function) (hx : (envOf name scope L a cd).kindOf (Str.ofString "_law_sends") = some .globalImplicit) (h : Q (.ref 253) s) : wpAny M A (eval (.Name (Str.ofString "_law_sends") pos) (envOf name scope L a cd)) Q E s := ld_global_at F (nsG y) (g_law_sends _) h hk hx (by decide)
theorem l_B64 (F : Fr h₀ L s.heap m) (y : YP w h₀) (hk : scope.kind = .function) (hx : (envOf name scope L a cd).kindOf (Str.ofString "_B64") = some .globalImplicit) (h : Q (.bytes b64Bytes 333) s) : wpAny M A (eval (.Name (Str.ofString "_B64") pos) (envOf name scope L a cd)) Q E s := ld_global_at F (nsG y) (g_B64 _) h hk hx (by decide)
theorem l_CRLF (F : Fr h₀ L s.heap m) (y : YP w h₀) (hk : scope.kind = .function) (hx : (envOf name scope L a cd).kindOf (Str.ofString "CRLF") = some .globalImplicit) (h : Q (.str (Str.ofString "\r\n") 491) s) : wpAny M A (eval (.Name (Str.ofString "CRLF") pos) (envOf name scope L a cd)) Q E s := ld_global_at F (nsG y) (g_CRLF _) h hk hx (by decide)
theorem l_type (F : Fr h₀ L s.heap m) (y : YP w h₀) (hk : scope.kind = .function) (hx : (envOf name scope L a cd).kindOf (Str.ofString "type") = some .globalImplicit) (h : Q (.type "type") s) : wpAny M A (eval (.Name (Str.ofString "type") pos) (envOf name scope L a cd)) Q E s := ld_builtin_at F (nsG y) (n_type _) (nsB y) (b_type _) h hk hx (by decide)
theorem l_str (F : Fr h₀ L s.heap m) (y : YP w h₀) (hk : scope.kind = .function) (hx : (envOf name scope L a cd).kindOf (Str.ofString "str") = some .globalImplicit) (h : Q (.type "str") s) : wpAny M A (eval (.Name (Str.ofString "str") pos) (envOf name scope L a cd)) Q E s := ld_builtin_at F (nsG y) (n_str _) (nsB y) (b_str _) h hk hx (by decide)
theorem l_bytes (F : Fr h₀ L s.heap m) (y : YP w h₀) (hk : scope.kind = .function) (hx : (envOf name scope L a cd).kindOf (Str.ofString "bytes") = some .globalImplicit) (h : Q (.type "bytes") s) : wpAny M A (eval (.Name (Str.ofString "bytes") pos) (envOf name scope L a cd)) Q E s := ld_builtin_at F (nsG y) (n_bytes _) (nsB y) (b_bytes _) h hk hx (by decide)
theorem l_bytearray (F : Fr h₀ L s.heap m) (y : YP w h₀) (hk : scope.kind = .function) (hx : (envOf name scope L a cd).kindOf (Str.ofString "bytearray") = some .globalImplicit) (h : Q (.type "bytearray") s) : wpAny M A (eval (.Name (Str.ofString "bytearray") pos) (envOf name scope L a cd)) Q E s := ld_builtin_at F (nsG y) (n_bytearray _) (nsB y) (b_bytearray _) h hk hx (by decide)
theorem l_bool (F : Fr h₀ L s.heap m) (y : YP w h₀) (hk : scope.kind = .function) (hx : (envOf name scope L a cd).kindOf (Str.ofString "bool") = some .globalImplicit) (h : Q (.type "bool") s) : wpAny M A (eval (.Name (Str.ofString "bool") pos) (envOf name scope L a cd)) Q E s := ld_builtin_at F (nsG y) (n_bool _) (nsB y) (b_bool _) h hk hx (by decide)
theorem l_int (F : Fr h₀ L s.heap m) (y : YP w h₀) (hk : scope.kind = .function) (hx : (envOf name scope L a cd).kindOf (Str.ofString "int") = some .globalImplicit) (h : Q (.type "int") s) : wpAny M A (eval (.Name (Str.ofString "int") pos) (envOf name scope L a cd)) Q E s := ld_builtin_at F (nsG y) (n_int _) (nsB y) (b_int _) h hk hx (by decide)
theorem l_float (F : Fr h₀ L s.heap m) (y : YP w h₀) (hk : scope.kind = .function) (hx : (envOf name scope L a cd).kindOf (Str.ofString "float") = some .globalImplicit) (h : Q (.type "float") s) : wpAny M A (eval (.Name (Str.ofString "float") pos) (envOf name scope L a cd)) Q E s := ld_builtin_at F (nsG y) (n_float _) (nsB y) (b_float _) h hk hx (by decide)
theorem l_complex (F : Fr h₀ L s.heap m) (y : YP w h₀) (hk : scope.kind = .function) (hx : (envOf name scope L a cd).kindOf (Str.ofString "complex") = some .globalImplicit) (h : Q (.type "complex") s) : wpAny M A (eval (.Name (Str.ofString "complex") pos) (envOf name scope L a cd)) Q E s := ld_builtin_at F (nsG y) (n_complex _) (nsB y) (b_complex _) h hk hx (by decide)
theorem l_list (F : Fr h₀ L s.heap m) (y : YP w h₀) (hk : scope.kind = .function) (hx : (envOf name scope L a cd).kindOf (Str.ofString "list") = some .globalImplicit) (h : Q (.type "list") s) : wpAny M A (eval (.Name (Str.ofString "list") pos) (envOf name scope L a cd)) Q E s := ld_builtin_at F (nsG y) (n_list _) (nsB y) (b_list _) h hk hx (by decide)
theorem l_tuple (F : Fr h₀ L s.heap m) (y : YP w h₀) (hk : scope.kind = .function) (hx : (envOf name scope L a cd).kindOf (Str.ofString "tuple") = some .globalImplicit) (h : Q (.type "tuple") s) : wpAny M A (eval (.Name (Str.ofString "tuple") pos) (envOf name scope L a cd)) Q E s := ld_builtin_at F (nsG y) (n_tuple _) (nsB y) (b_tuple _) h hk hx (by decide)
theorem l_dict (F : Fr h₀ L s.heap m) (y : YP w h₀) (hk : scope.kind = .function) (hx : (envOf name scope L a cd).kindOf (Str.ofString "dict") = some .globalImplicit) (h : Q (.type "dict") s) : wpAny M A (eval (.Name (Str.ofString "dict") pos) (envOf name scope L a cd)) Q E s := ld_builtin_at F (nsG y) (n_dict _) (nsB y) (b_dict _) h hk hx (by decide)
theorem l_set (F : Fr h₀ L s.heap m) (y : YP w h₀) (hk : scope.kind = .function) (hx : (envOf name scope L a cd).kindOf (Str.ofString "set") = some .globalImplicit) (h : Q (.type "set") s) : wpAny M A (eval (.Name (Str.ofString "set") pos) (envOf name scope L a cd)) Q E s := ld_builtin_at F (nsG y) (n_set _) (nsB y) (b_set _) h hk hx (by decide)
theorem l_frozenset (F : Fr h₀ L s.heap m) (y : YP w h₀) (hk : scope.kind = .function) (hx : (envOf name scope L a cd).kindOf (Str.ofString "frozenset") = some .globalImplicit) (h : Q (.type "frozenset") s) : wpAny M A (eval (.Name (Str.ofString "frozenset") pos) (envOf name scope L a cd)) Q E s := ld_builtin_at F (nsG y) (n_frozenset _) (nsB y) (b_frozenset _) h hk hx (by decide)
theorem l_range (F : Fr h₀ L s.heap m) (y : YP w h₀) (hk : scope.kind = .function) (hx : (envOf name scope L a cd).kindOf (Str.ofString "range") = some .globalImplicit) (h : Q (.type "range") s) : wpAny M A (eval (.Name (Str.ofString "range") pos) (envOf name scope L a cd)) Q E s := ld_builtin_at F (nsG y) (n_range _) (nsB y) (b_range _) h hk hx (by decide)
theorem l_ord (F : Fr h₀ L s.heap m) (y : YP w h₀) (hk : scope.kind = .function) (hx : (envOf name scope L a cd).kindOf (Str.ofString "ord") = some .globalImplicit) (h : Q (.builtin "ord") s) : wpAny M A (eval (.Name (Str.ofString "ord") pos) (envOf name scope L a cd)) Q E s := ld_builtin_at F (nsG y) (n_ord _) (nsB y) (b_ord _) h hk hx (by decide)
theorem l_chr (F : Fr h₀ L s.heap m) (y : YP w h₀) (hk : scope.kind = .function) (hx : (envOf name scope L a cd).kindOf (Str.ofString "chr") = some .globalImplicit) (h : Q (.builtin "chr") s) : wpAny M A (eval (.Name (Str.ofString "chr") pos) (envOf name scope L a cd)) Q E s := ld_builtin_at F (nsG y) (n_chr _) (nsB y) (b_chr _) h hk hx (by decide)
theorem l_len (F : Fr h₀ L s.heap m) (y : YP w h₀) (hk : scope.kind = .function) (hx : (envOf name scope L a cd).kindOf (Str.ofString "len") = some .globalImplicit) (h : Q (.builtin "len") s) : wpAny M A (eval (.Name (Str.ofString "len") pos) (envOf name scope L a cd)) Q E s := ld_builtin_at F (nsG y) (n_len _) (nsB y) (b_len _) h hk hx (by decide)
theorem l_isinstance (F : Fr h₀ L s.heap m) (y : YP w h₀) (hk : scope.kind = .function) (hx : (envOf name scope L a cd).kindOf (Str.ofString "isinstance") = some .globalImplicit) (h : Q (.builtin "isinstance") s) : wpAny M A (eval (.Name (Str.ofString "isinstance") pos) (envOf name scope L a cd)) Q E s := ld_builtin_at F (nsG y) (n_isinstance _) (nsB y) (b_isinstance _) h hk hx (by decide)
end
theorem callWith_y {w : World} {A : Around} {E : Value → Shared → Prop} {s : Shared} {env : Env} {pos : Pos} {f : Addr} {e : Expr} {rest : List Expr} {Q : Value → Shared → Prop} (hf : ∃ o fd, (H7 w.params).get? f = some o ∧ o.data = .func fd)
    (h : wpAny (model pw w) A (spliced (backTo pos (starEach (e :: rest) env))) (fun vs s₁ => YP w s₁.heap ∧ wpAny (model pw w) A (call (.ref f) vs) Q E s₁) E s)
    (he : starEach (e :: rest) env = (false, eval e env) :: starEach rest env := by rfl) :
    wpAny (model pw w) A (callWith pos (.ref f) [] (backTo pos (starEach (e :: rest) env)) []) Q E s := by
  obtain ⟨o, fd, ho, hd⟩ := hf
  exact callWith_def hd (wpAny_mono h (fun vs s₁ h₁ => ⟨h₁.1 _ _ ho, h₁.2⟩) fun _ _ x => x) he
theorem getG {w : World} {h : Heap} {a : Addr} {o : Obj} (y : YP w h) (e : (H7 w.params).get? a = some o) : h.get? a = some o := y _ _ e
end Mine
end P_Wk0
section P_Wk1
open PySem PySem.W PySem.Calls PyProof.Rows
set_option linter.unusedVariables false
set_option maxRecDepth 100000
namespace Mine
noncomputable def b64v (c : Int) : Int := if 65 ≤ c ∧ c ≤ 90 then c - 65 else if 97 ≤ c ∧ c ≤ 122 then c - 71 else if 48 ≤ c ∧ c ≤ 57 then c + 4 else if c = 43 then 62 else if c = 47 then 63 else 64
theorem rules_Wk1_1 : True := by
  k_with_none
  k_with "eval Name" => ((with_reducible refine' ld ?gF ?gv ?_ ?gk ?gl ?gd); (case gF => assumption); (case gl => with_unfolding_all exact rfl); (case gv => with_unfolding_all exact rfl); (case gk => with_unfolding_all exact rfl); (case gd => with_unfolding_all exact rfl))
  k_with "eval Name" => ((first | (with_reducible refine' l_ascii_buffer ?gF ?gy ?gk ?gx ?_) | (with_reducible refine' l_buffer ?gF ?gy ?gk ?gx ?_) | (with_reducible refine' l_truth ?gF ?gy ?gk ?gx ?_) | (with_reducible refine' l_b64_value ?gF ?gy ?gk ?gx ?_) | (with_reducible refine' l_a2b_base64 ?gF ?gy ?gk ?gx ?_) | (with_reducible refine' l_b2a_base64 ?gF ?gy ?gk ?gx ?_) | (with_reducible refine' l_Authenticator ?gF ?gy ?gk ?gx ?_) | (with_reducible refine' l_twin_re_1 ?gF ?gy ?gk ?gx ?_) | (with_reducible refine' l_twin_re_2 ?gF ?gy ?gk ?gx ?_) | (with_reducible refine' l_quotedata ?gF ?gy ?gk ?gx ?_) | (with_reducible refine' l_b1_set ?gF ?gy ?gk ?gx ?_) | (with_reducible refine' l_in_table_b1 ?gF ?gy ?gk ?gx ?_) | (with_reducible refine' l_b3_exceptions ?gF ?gy ?gk ?gx ?_) | (with_reducible refine' l_map_table_b3 ?gF ?gy ?gk ?gx ?_) | (with_reducible refine' l_law_piece ?gF ?gy ?gk ?gx ?_) | (with_reducible refine' l_law_rows ?gF ?gy ?gk ?gx ?_) | (with_reducible refine' l_law_in_fours ?gF ?gy ?gk ?gx ?_) | (with_reducible refine' l_law_prepares ?gF ?gy ?gk ?gx ?_) | (with_reducible refine' l_law_sends ?gF ?gy ?gk ?gx ?_) | (with_reducible refine' l_B64 ?gF ?gy ?gk ?gx ?_) | (with_reducible refine' l_CRLF ?gF ?gy ?gk ?gx ?_) | (with_reducible refine' l_type ?gF ?gy ?gk ?gx ?_) | (with_reducible refine' l_str ?gF ?gy ?gk ?gx ?_) | (with_reducible refine' l_bytes ?gF ?gy ?gk ?gx ?_) | (with_reducible refine' l_bytearray ?gF ?gy ?gk ?gx ?_) | (with_reducible refine' l_bool ?gF ?gy ?gk ?gx ?_) | (with_reducible refine' l_int ?gF ?gy ?gk ?gx ?_) | (with_reducible refine' l_float ?gF ?gy ?gk ?gx ?_) | (with_reducible refine' l_complex ?gF ?gy ?gk ?gx ?_) | (with_reducible refine' l_list ?gF ?gy ?gk ?gx ?_) | (with_reducible refine' l_tuple ?gF ?gy ?gk ?gx ?_) | (with_reducible refine' l_dict ?gF ?gy ?gk ?gx ?_) | (with_reducible refine' l_set ?gF ?gy ?gk ?gx ?_) | (with_reducible refine' l_frozenset ?gF ?gy ?gk ?gx ?_) | (with_reducible refine' l_range ?gF ?gy ?gk ?gx ?_) | (with_reducible refine' l_ord ?gF ?gy ?gk ?gx ?_) | (with_reducible refine' l_chr ?gF ?gy ?gk ?gx ?_) | (with_reducible refine' l_len ?gF ?gy ?gk ?gx ?_) | (with_reducible refine' l_isinstance ?gF ?gy ?gk ?gx ?_)); (case gF => assumption); (case gy => assumption); (case gk => with_unfolding_all exact rfl); (case gx => with_unfolding_all exact rfl))
  k_with "call type:type" => ((with_reducible refine' call_type_of (Tx := "bytes") (typeIs_bytes _ _ _) ?hnb ?_); (case hnb => decide))
  k_with "callWith ref" => (refine callWith_y ⟨_, _, (by with_unfolding_all exact rfl), (by with_unfolding_all exact rfl)⟩ ?_)
  k_with "And" => ((with_reducible show YP _ _ ∧ wpAny _ _ (call (Value.ref _) _ _) _ _ _); refine' And.intro ?gA ?_; (case gA => exact YP.fr (by assumption) (by assumption)))
  k_with "unpackItems ref" => ((refine' unpackItemsN_ ?gF ?gN ?gT ?gh ?gn ?_; (case gF => assumption); (case gN => assumption); (case gT => exact News.isTup (by assumption) (by k_mem)); (case gh => exact Room.handled (by assumption)); (case gn => with_unfolding_all exact rfl)); intro _ _ _)
  trivial
section
variable {w : World} {A : Around} {E : Value → Shared → Prop} {s : Shared}
set_option maxHeartbeats 4000000 in
theorem c_b64_value {c : Int} {t : Tok} (y : YP w s.heap) (hr : Room A 1) :
    wpAny (model pw w) A (call (.ref 79) [.int c t]) (Ret s fun v _ => ∃ t, v = .int (b64v c) t) E s := by
  refine enterF (k := 0) (args := ⟨[.int c t], []⟩) (binds := [(Str.ofString "c", .int c t)]) "_b64_value" "_b64_value" (stAt 8) .none _ hr y (by rfl) (by rfl) ⟨_, _, _, by rfl, by rfl, by rfl⟩ (BindsTo.of_eq (by rfl)) (locs (by rfl)) ⟨by rfl, by rfl, by rfl, by rfl⟩ (fun h₁ r F N => ?_)
  walk
  all_goals (refine done_at F ⟨_, congrArg (fun x => Value.int x _) ?_⟩; (unfold b64v; (repeat' split) <;> (first | lia | omega)))
set_option maxHeartbeats 4000000 in
theorem c_truth {b : Bool} (y : YP w s.heap) (hr : Room A 1) :
    wpAny (model pw w) A (call (.ref 72) [.bool b]) (Ret s fun v _ => v = .bool b) E s := by
  refine enterF (k := 0) (args := ⟨[.bool b], []⟩) (binds := [(Str.ofString "x", .bool b)]) "_truth" "_truth" (stAt 6) .none _ hr y (by rfl) (by rfl) ⟨_, _, _, by rfl, by rfl, by rfl⟩ (BindsTo.of_eq (by rfl)) (locs (by rfl)) ⟨by rfl, by rfl, by rfl, by rfl⟩ (fun h₁ r F N => ?_)
  walk
  all_goals exact done_at (by assumption) (by simp_all)
set_option maxHeartbeats 4000000 in
theorem c_buffer {b : Array UInt8} {t : Tok} (y : YP w s.heap) (hr : Room A 1) :
    wpAny (model pw w) A (call (.ref 65) [.bytes b t]) (Ret s fun v _ => ∃ t, v = .bytes b t) E s := by
  refine enterF (k := 0) (args := ⟨[.bytes b t], []⟩) (binds := [(Str.ofString "data", .bytes b t)]) "_buffer" "_buffer" (stAt 5) .none _ hr y (by rfl) (by rfl) ⟨_, _, _, by rfl, by rfl, by rfl⟩ (BindsTo.of_eq (by rfl)) (locs (by rfl)) ⟨by rfl, by rfl, by rfl, by rfl⟩ (fun h₁ r F N => ?_)
  walk
  all_goals exact done_at (P := fun v _ => ∃ t, v = .bytes b t) (by assumption) ⟨_, rfl⟩
set_option maxHeartbeats 4000000 in
theorem c_ascii_buffer {b : Array UInt8} {t : Tok} (y : YP w s.heap) (hr : Room A 1) :
    wpAny (model pw w) A (call (.ref 58) [.bytes b t]) (Ret s fun v _ => ∃ t, v = .bytes b t) E s := by
  refine enterF (k := 0) (args := ⟨[.bytes b t], []⟩) (binds := [(Str.ofString "data", .bytes b t)]) "_ascii_buffer" "_ascii_buffer" (stAt 4) .none _ hr y (by rfl) (by rfl) ⟨_, _, _, by rfl, by rfl, by rfl⟩ (BindsTo.of_eq (by rfl)) (locs (by rfl)) ⟨by rfl, by rfl, by rfl, by rfl⟩ (fun h₁ r F N => ?_)
  walk
  all_goals exact done_at (P := fun v _ => ∃ t, v = .bytes b t) (by assumption) ⟨_, rfl⟩
end
end Mine
end P_Wk1
section P_Re1
open PySem PySem.Sre
set_option linter.unusedVariables false
set_option maxRecDepth 100000
namespace Mine
noncomputable def P1 : Array Nat := #[14, 4, 0, 1, 1, 6, 1, 16, 46, 1]
noncomputable def P2 : Array Nat := #[14, 9, 4, 1, 2, 16, 10, 16, 13, 0, 7, 7, 16, 13, 16, 10, 15, 18, 5, 16, 10, 15, 13, 11, 16, 13, 5, 5, 0, 16, 10, 1, 15, 2, 0, 1]
/-- the machine's states that the two patterns reach -/
noncomputable def mst (code T : Array Nat) (start : Nat) (must : Bool) (pc pos handed : Nat) (om : Bool) (fr : List Sre.Frame) (w : Nat) (ans : Option Bool) (σ : Seen) (out : Option Sre.Outcome) : M :=
  { code, text := T, lim := T.size, start, lastStart := T.size, wholeText := false, mustAdvance := must, pc, pos, handed, outermost := om, marks := #[], lastmark := -1, lastindex := -1, loops := #[], inner := none, frames := fr, weight := w, answer := ans, seen := σ, outcome := out }
noncomputable def fst (wt : Wait) (pc pos : Nat) (om : Bool) : Sre.Frame := { wait := wt, pc, pos, outermost := om, count := 0, kept := {}, loop := 0, began := none }
noncomputable def Goes (m : M) (k : Nat) (m' : M) : Prop := ∀ j, m.runFor (k + j) = m'.runFor j
theorem Goes.refl (m : M) : Goes m 0 m := fun j => by rw [Nat.zero_add]
theorem Goes.step {m m' : M} {k : Nat} (h : m.outcome = none) (g : Goes m.step k m') : Goes m (k + 1) m' := fun j => by
  rw [show k + 1 + j = (k + j) + 1 by (first | lia | omega)]
  show (if m.outcome.isSome then m else (m.step).runFor (k + j)) = _
  rw [h]
  exact g j
theorem Goes.trans {m m' m'' : M} {k l : Nat} (g : Goes m k m') (g' : Goes m' l m'') : Goes m (k + l) m'' := fun j => by rw [Nat.add_assoc, g, g']
theorem Goes.st {m m₁ m' : M} {k : Nat} (h : m.outcome = none) (e : m.step = m₁) (g : Goes m₁ k m') : Goes m (k + 1) m' := .step h (e ▸ g)
section
variable {T : Array Nat} {s : Nat} {must om : Bool} {fr : List Sre.Frame} {w pos handed pc : Nat} {σ : Seen}
theorem p1_at : (mst P1 T s must 5 pos handed om fr w none σ none).step = if (pos == 0 || T.getD (pos - 1) 0 == 10) = true then mst P1 T s must 7 pos handed om fr w none ((σ.add 6).add 44) none else mst P1 T s must 5 pos handed om fr w (some false) ((σ.add 6).add 44) none := by rfl
theorem p1_end : (mst P1 T s must 9 pos handed true fr w none σ none).step = if (false || must && pos == s) = true then mst P1 T s must 9 pos handed true fr w (some false) (σ.add 1) none else mst P1 T s must 9 pos pos true fr w (some true) (σ.add 1) none := by rfl
theorem lit {code : Array Nat} {pc c : Nat} (hc : code.getD pc 0 = 16) (hc2 : code.getD (pc + 1) 0 = c) (hpc : pc < code.size) : (mst code T s must pc pos handed om fr w none σ none).step = if pos ≥ T.size then mst code T s must pc pos handed om fr w (some false) (σ.add 16) none else
    if (T.getD pos 0 == c) = true then mst code T s must (pc + 2) (pos + 1) handed om fr w none (σ.add 16) none else mst code T s must pc pos handed om fr w (some false) (σ.add 16) none := by
  have h1 : ops[(16 : Nat)]? = some .LITERAL := rfl
  have e0 : (mst code T s must pc pos handed om fr w none σ none).step = (mst code T s must pc pos handed om fr w none σ none).exec := by
    show (if pc < code.size then _ else _) = _
    rw [if_pos hpc]
  rw [e0]
  unfold M.exec
  have e1 : (mst code T s must pc pos handed om fr w none σ none).word 0 = 16 := hc
  rw [e1, h1]
  have ha : ∀ x σ', accepts code pc x σ' = .ok (x == c, σ') := by
    intro x σ'
    unfold accepts
    rw [hc, hc2]
    rfl
  have hw : itemWidth code pc = 2 := by
    unfold itemWidth
    rw [hc]
    rfl
  show (if pos ≥ T.size then _ else match accepts code pc (T.getD pos 0) (σ.add 16) with | .error why => _ | .ok (false, seen) => _ | .ok (true, seen) => { mst code T s must pc pos handed om fr w none σ none with seen, pc := pc + itemWidth code pc, pos := pos + 1 }) = _
  rw [ha, hw]
  split
  · rfl
  · cases hh : (T.getD pos 0 == c) <;> rfl
theorem p2_branch (hw : w ≤ 1000) : (mst P2 T s must 10 pos handed om fr w none σ none).step = mst P2 T s must 12 pos pos om (fst .nextBranch 11 pos om :: fr) (w + 1) none (σ.add 7) none := by
  show M.attempt _ _ _ _ _ = _
  unfold M.attempt
  rw [if_neg (by show ¬ (w + 1 + 0 > 16777216); (first | lia | omega))]
  rfl
theorem p2_jump (h : pc = 16 ∨ pc = 21 ∨ pc = 32) : (mst P2 T s must pc pos handed om fr w none σ none).step = mst P2 T s must 35 pos handed om fr w none (σ.add 15) none := by
  rcases h with rfl | rfl | rfl <;> rfl
theorem p2_end : (mst P2 T s must 35 pos handed true fr w none σ none).step = if (false || must && pos == s) = true then mst P2 T s must 35 pos handed true fr w (some false) (σ.add 1) none else mst P2 T s must 35 pos pos true fr w (some true) (σ.add 1) none := by rfl
theorem p2_not (hw : w ≤ 1000) : (mst P2 T s must 26 pos handed om fr w none σ none).step = mst P2 T s must 29 pos pos false (fst .lookNot 26 pos om :: fr) (w + 1) none (σ.add 5) none := by
  show M.attempt _ _ _ _ _ = _
  unfold M.attempt
  rw [if_neg (by show ¬ (w + 1 + 0 > 16777216); (first | lia | omega))]
  rfl
/-- answers -/
theorem pop_yes {code : Array Nat} {pc fpc fpos : Nat} {fom : Bool} {wt : Wait} (h : wt = .nextStart ∨ wt = .nextBranch) : (mst code T s must pc pos handed om (fst wt fpc fpos fom :: fr) (w + 1) (some true) σ none).step = mst code T s must fpc fpos handed fom fr w (some true) σ none := by
  rcases h with rfl | rfl <;> rfl
theorem pop_nil {code : Array Nat} {pc : Nat} {b : Bool} : (mst code T s must pc pos handed om [] w (some b) σ none).step = mst code T s must pc pos handed om [] w (some b) σ (some (if b then .matched else .failed)) := by
  cases b <;> rfl
theorem pop_not {fpos : Nat} {fom : Bool} : (mst P2 T s must 29 pos handed om (fst .lookNot 26 fpos fom :: fr) (w + 1) (some false) σ none).step = mst P2 T s must 32 fpos handed fom fr w none σ none := by rfl
theorem pop_alt {pc fpos : Nat} {fom : Bool} (hw : w ≤ 1000) : (mst P2 T s must pc pos handed om (fst .nextBranch 11 fpos fom :: fr) (w + 1) (some false) σ none).step = mst P2 T s must 19 fpos fpos fom (fst .nextBranch 18 fpos fom :: fr) (w + 1) none σ none := by
  show M.attempt _ _ _ _ _ = _
  unfold M.attempt
  rw [if_neg (by show ¬ (w + 1 - 1 + 1 + 0 > 16777216); (first | lia | omega))]
  rfl
theorem pop_alt2 {pc fpos : Nat} {fom : Bool} (hw : w ≤ 1000) : (mst P2 T s must pc pos handed om (fst .nextBranch 18 fpos fom :: fr) (w + 1) (some false) σ none).step = mst P2 T s must 24 fpos fpos fom (fst .nextBranch 23 fpos fom :: fr) (w + 1) none σ none := by
  show M.attempt _ _ _ _ _ = _
  unfold M.attempt
  rw [if_neg (by show ¬ (w + 1 - 1 + 1 + 0 > 16777216); (first | lia | omega))]
  rfl
theorem p1_fin : (mst P1 T s false 9 pos handed om fr w none σ none).step = mst P1 T s false 9 pos pos om fr w (some true) (σ.add 1) none := by cases om <;> rfl
theorem p2_fin : (mst P2 T s false 35 pos handed om fr w none σ none).step = mst P2 T s false 35 pos pos om fr w (some true) (σ.add 1) none := by cases om <;> rfl
noncomputable def σ0 : Seen := ({} : Seen).add 14
noncomputable def a1 (T : Array Nat) (s : Nat) (om : Bool) (σ : Seen) : M := mst P1 T s false 5 s s om [fst .nextStart 5 s om] 1 none σ none
noncomputable def a2 (T : Array Nat) (s : Nat) (om : Bool) (σ : Seen) : M := mst P2 T s false 10 s s om [fst .nextStart 10 s om] 1 none σ none
theorem forSearch1 (h : s < T.size) : forSearch P1 T 0 s T.size false = a1 T s true σ0 := by
  unfold forSearch
  rw [if_neg (by show ¬ (decide (s > T.size) || decide (T.size - s < 1)) = true; simp; (first | lia | omega))]
  rfl
noncomputable def m2 (T : Array Nat) (s : Nat) (σ : Seen) : M := mst P2 T s false 10 s s true [] 0 none σ none
theorem forSearch2 (h : s < T.size) : forSearch P2 T 0 s T.size false = (m2 T s σ0).attemptFrom s true := by
  unfold forSearch
  rw [if_neg (by show ¬ (decide (s > T.size) || decide (T.size - s < 1)) = true; simp; (first | lia | omega))]
  rfl
theorem forSearch_past {code : Array Nat} (hc : (header code).1 = 1) (h : T.size ≤ s) : ∃ m, Goes (forSearch code T 0 s T.size false) 1 m ∧ m.outcome = some .failed := by
  unfold forSearch
  rw [if_pos (by rw [hc]; simp; (first | lia | omega))]
  exact ⟨_, .st rfl rfl (.refl _), rfl⟩
theorem p1_next {p : Nat} {fom : Bool} : (mst P1 T s must pc pos handed om [fst .nextStart 5 p fom] 1 (some false) σ none).step = if p < T.size then a1 T (p + 1) false σ else mst P1 T s must 5 p handed fom [] 0 (some false) σ none := by rfl
end
noncomputable def nl (c : Nat) : Bool := c == 10 || c == 13
noncomputable def hit1 (T : Array Nat) (s : Nat) : Bool := (s == 0 || T.getD (s - 1) 0 == 10) && T.getD s 0 == 46
noncomputable def find1 (T : Array Nat) : Nat → Nat → Option Nat
  | 0, _ => none
  | f + 1, s => if s ≥ T.size then none else if hit1 T s then some s else find1 T f (s + 1)
noncomputable def find2 (T : Array Nat) : Nat → Nat → Option Nat
  | 0, _ => none
  | f + 1, s => if s ≥ T.size then none else if nl (T.getD s 0) then some s else find2 T f (s + 1)
noncomputable def end2 (T : Array Nat) (s : Nat) : Nat := if T.getD s 0 == 13 && (decide (s + 1 < T.size) && T.getD (s + 1) 0 == 10) then s + 2 else s + 1
noncomputable def Res (m0 : M) (K : Nat) (r : Option (Nat × Nat)) : Prop := ∃ k, k ≤ K ∧ ∃ m, Goes m0 k m ∧ match r with
  | none => m.outcome = some .failed
  | some (a, e) => m.outcome = some .matched ∧ m.start = a ∧ m.handed = e
theorem Res.pre {m0 m1 : M} {k K : Nat} {r : Option (Nat × Nat)} (g : Goes m0 k m1) (h : Res m1 K r) : Res m0 (k + K) r := by
  obtain ⟨k', hk, m, hg, hm⟩ := h
  exact ⟨k + k', by (first | lia | omega), m, g.trans hg, hm⟩
theorem Res.le {m0 : M} {K K' : Nat} {r : Option (Nat × Nat)} (h : Res m0 K r) (hk : K ≤ K') : Res m0 K' r := by
  obtain ⟨k', hk', m⟩ := h
  exact ⟨k', by (first | lia | omega), m⟩
theorem search1 (T : Array Nat) : ∀ (f s : Nat) (om : Bool) (σ : Seen), T.size + 1 ≤ f + s → s ≤ T.size → Res (a1 T s om σ) (4 * f + 5) ((find1 T f s).map fun a => (a, a + 1))
  | 0, s, om, σ, hf, hs => by (first | lia | omega)
  | f + 1, s, om, σ, hf, hs => by
    have miss : ∀ {pc : Nat} {σ' : Seen} {k : Nat}, k ≤ 2 → hit1 T s = false ∨ T.size ≤ s → Goes (a1 T s om σ) k (mst P1 T s false pc s s om [fst .nextStart 5 s om] 1 (some false) σ' none) →
        Res (a1 T s om σ) (4 * (f + 1) + 5) ((find1 T (f + 1) s).map fun a => (a, a + 1)) := by
      intro pc σ' k hk hm g
      by_cases hlt : s < T.size
      · have e : find1 T (f + 1) s = find1 T f (s + 1) := by
          show (if s ≥ T.size then none else if hit1 T s = true then some s else find1 T f (s + 1)) = _
          rw [if_neg (by (first | lia | omega)), if_neg]
          rcases hm with hm | hm
          · rw [hm]; decide
          · (first | lia | omega)
        rw [e]
        refine (Res.pre (g.trans (.st rfl (p1_next.trans (if_pos hlt)) (.refl _))) (search1 T f (s + 1) false σ' (by (first | lia | omega)) (by (first | lia | omega)))).le (by (first | lia | omega))
      · have e : find1 T (f + 1) s = none := by
          show (if s ≥ T.size then none else _) = _
          rw [if_pos (by (first | lia | omega))]
        rw [e]
        exact ⟨_, by (first | lia | omega), _, g.trans (.st rfl (p1_next.trans (if_neg hlt)) (.st rfl pop_nil (.refl _))), rfl⟩
    cases h1 : (s == 0 || T.getD (s - 1) 0 == 10) with
    | false =>
      refine miss (k := 1) (by (first | lia | omega)) (.inl (by simp only [hit1, h1]; rfl)) (.st rfl (p1_at.trans (if_neg (by rw [h1]; decide))) (.refl _))
    | true =>
      have g1 : Goes (a1 T s om σ) 1 _ := .st rfl (p1_at.trans (if_pos h1)) (.refl _)
      by_cases hlt : s < T.size
      · cases h2 : (T.getD s 0 == 46) with
        | false => exact miss (k := 2) (by (first | lia | omega)) (.inl (by simp only [hit1, h1, h2]; rfl)) (g1.trans (.st rfl ((lit (c := 46) rfl rfl (by decide)).trans ((if_neg (by (first | lia | omega))).trans (if_neg (by rw [h2]; decide)))) (.refl _)))
        | true =>
          have e : find1 T (f + 1) s = some s := by
            show (if s ≥ T.size then none else if hit1 T s = true then some s else find1 T f (s + 1)) = _
            rw [if_neg (by (first | lia | omega)), if_pos (by simp only [hit1, h1, h2]; rfl)]
          rw [e]
          exact ⟨_, by (first | lia | omega), _, g1.trans (.st rfl ((lit (c := 46) rfl rfl (by decide)).trans ((if_neg (by (first | lia | omega))).trans (if_pos h2))) (.st rfl p1_fin (.st rfl (pop_yes (.inl rfl)) (.st rfl pop_nil (.refl _))))), rfl, rfl, rfl⟩
      · exact miss (k := 2) (by (first | lia | omega)) (.inr (by (first | lia | omega))) (g1.trans (.st rfl ((lit (c := 46) rfl rfl (by decide)).trans (if_pos (by (first | lia | omega)))) (.refl _)))
theorem p2_cr {T : Array Nat} {s : Nat} (hs : s < T.size) (h : nl (T.getD s 0) = true) (om : Bool) (σ : Seen) : Res (a2 T s om σ) 30 (some (s, end2 T s)) := by
  have g1 : Goes (a2 T s om σ) 1 _ := .st rfl (p2_branch (by decide)) (.refl _)
  cases h13 : (T.getD s 0 == 13) with
  | true =>
    have g2 := g1.trans (.st rfl ((lit (c := 13) rfl rfl (by decide)).trans ((if_neg (by (first | lia | omega))).trans (if_pos h13))) (.refl _))
    cases h10 : (decide (s + 1 < T.size) && T.getD (s + 1) 0 == 10) with
    | true =>
      have e : end2 T s = s + 2 := by simp only [end2, h13, h10]; rfl
      rw [e]
      simp only [Bool.and_eq_true, decide_eq_true_eq] at h10
      exact ⟨_, by decide, _, g2.trans (.st rfl ((lit (c := 10) rfl rfl (by decide)).trans ((if_neg (by (first | lia | omega))).trans (if_pos h10.2))) (.st rfl (p2_jump (.inl rfl)) (.st rfl p2_fin (.st rfl (pop_yes (.inr rfl)) (.st rfl (pop_yes (.inl rfl)) (.st rfl pop_nil (.refl _))))))), rfl, rfl, rfl⟩
    | false =>
      have e : end2 T s = s + 1 := by simp only [end2, h13, h10]; rfl
      rw [e]
      have hno : T.size ≤ s + 1 ∨ ¬ (T.getD (s + 1) 0 == 10) = true := by
        by_cases hh : s + 1 < T.size
        · right; intro hx; rw [hx, decide_eq_true hh] at h10; exact absurd h10 (by decide)
        · left; (first | lia | omega)
      have n10 : ¬ (T.getD s 0 == 10) = true := by
        intro hx; have e1 := beq_iff_eq.mp h13; have e2 := beq_iff_eq.mp hx; rw [e1] at e2; exact absurd e2 (by decide)
      have fail10 : ∀ {pc h' : Nat} {om' : Bool} {fr : List Sre.Frame} {w : Nat} {σ' : Seen}, P2.getD pc 0 = 16 → P2.getD (pc + 1) 0 = 10 → pc < P2.size → (mst P2 T s false pc (s + 1) h' om' fr w none σ' none).step = mst P2 T s false pc (s + 1) h' om' fr w (some false) (σ'.add 16) none := by
        intro pc h' om' fr w σ' k1 k2 k3
        rw [lit k1 k2 k3]
        rcases hno with hno | hno
        · rw [if_pos (by (first | lia | omega))]
        · rw [if_neg hno]
          split <;> rfl
      refine ⟨_, ?_, _, g2.trans (.st rfl (fail10 rfl rfl (by decide)) (.st rfl (pop_alt (by decide)) (.st rfl ((lit (c := 10) rfl rfl (by decide)).trans ((if_neg (by (first | lia | omega))).trans (if_neg n10))) (.st rfl (pop_alt2 (by decide)) (.st rfl ((lit (c := 13) rfl rfl (by decide)).trans ((if_neg (by (first | lia | omega))).trans (if_pos h13)))
        (.st rfl (p2_not (by decide)) (.st rfl (fail10 rfl rfl (by decide)) (.st rfl pop_not (.st rfl (p2_jump (.inr (.inr rfl))) (.st rfl p2_fin (.st rfl (pop_yes (.inr rfl)) (.st rfl (pop_yes (.inl rfl)) (.st rfl pop_nil (.refl _)))))))))))))), rfl, rfl, rfl⟩
      decide
  | false =>
    have h10 : (T.getD s 0 == 10) = true := by
      simp only [nl, Bool.or_eq_true] at h
      rcases h with h | h
      · exact h
      · rw [h13] at h; exact absurd h (by decide)
    have e : end2 T s = s + 1 := by simp only [end2, h13]; rfl
    rw [e]
    refine ⟨_, ?_, _, g1.trans (.st rfl ((lit (c := 13) rfl rfl (by decide)).trans ((if_neg (by (first | lia | omega))).trans (if_neg (by rw [h13]; decide)))) (.st rfl (pop_alt (by decide)) (.st rfl ((lit (c := 10) rfl rfl (by decide)).trans ((if_neg (by (first | lia | omega))).trans (if_pos h10))) (.st rfl (p2_jump (.inr (.inl rfl))) (.st rfl p2_fin (.st rfl (pop_yes (.inr rfl)) (.st rfl (pop_yes (.inl rfl)) (.st rfl pop_nil (.refl _))))))))), rfl, rfl, rfl⟩
    decide
theorem inSet2 (c : Nat) (σ : Seen) : inSet P2 c P2.size 5 true σ = if (c == 10) = true then .ok (true, σ.add 16) else if (c == 13) = true then .ok (true, (σ.add 16).add 16) else .ok (false, ((σ.add 16).add 16).add 0) := by rfl
theorem adm2 (m : M) (hc : m.code = P2) : ∀ (f s : Nat) (σ : Seen), m.lim + 1 ≤ f + s → s ≤ m.lim → m.lim = m.text.size → ∃ σ', M.admitted m f s σ = .ok (find2 m.text f s, σ')
  | 0, s, σ, hf, hs, hl => by (first | lia | omega)
  | f + 1, s, σ, hf, hs, hl => by
    unfold M.admitted find2
    by_cases h : s ≥ m.lim
    · rw [if_pos h, if_pos (by (first | lia | omega))]; exact ⟨_, rfl⟩
    · rw [if_neg h, if_neg (by (first | lia | omega)), hc, inSet2]
      cases h1 : (m.text.getD s 0 == 10) with
      | true => simp only [nl, h1]; exact ⟨_, rfl⟩
      | false =>
        cases h2 : (m.text.getD s 0 == 13) with
        | true => simp only [nl, h1, h2]; exact ⟨_, rfl⟩
        | false => simp only [nl, h1, h2]; exact adm2 m hc f (s + 1) _ (by (first | lia | omega)) (by (first | lia | omega)) hl
theorem find2_lt (T : Array Nat) : ∀ (f s a : Nat), find2 T f s = some a → s ≤ a ∧ a < T.size ∧ nl (T.getD a 0) = true
  | 0, s, a, h => by simp [find2] at h
  | f + 1, s, a, h => by
    unfold find2 at h
    split at h
    · simp at h
    · split at h
      · rename_i h1 h2
        simp at h; subst h; exact ⟨Nat.le_refl _, by (first | lia | omega), h2⟩
      · have := find2_lt T f (s + 1) a h; exact ⟨by (first | lia | omega), this.2⟩
theorem search2 (T : Array Nat) (s : Nat) (σ : Seen) (hs : s < T.size) : Res ((m2 T s σ).attemptFrom s true) 40 ((find2 T (T.size + 1 - s) s).map fun a => (a, end2 T a)) := by
  unfold M.attemptFrom
  rw [show (m2 T s σ).hasFirstSet = true from rfl, if_neg (by decide)]
  obtain ⟨σ', e⟩ := adm2 (m2 T s σ) rfl (T.size + 1 - s) s σ (by show T.size + 1 ≤ _; (first | lia | omega)) (by show s ≤ T.size; (first | lia | omega)) rfl
  have e' : M.admitted (m2 T s σ) ((m2 T s σ).lim + 1 - s) s (m2 T s σ).seen = .ok (find2 T (T.size + 1 - s) s, σ') := e
  rw [e']
  cases hf : find2 T (T.size + 1 - s) s with
  | none => exact ⟨_, by decide, _, .st rfl rfl (.refl _), rfl⟩
  | some a =>
    have := find2_lt T _ _ _ hf
    exact (p2_cr this.2.1 this.2.2 true σ').le (by decide)
end Mine
end P_Re1
section P_Re2
open PySem PySem.Builtin PySem.Builtin.Re PySem.Sre PySem.Calls PyProof.Rows
set_option linter.unusedVariables false
set_option maxRecDepth 100000
namespace Mine
theorem slot_sub : Slot "re.Pattern" "sub" "re.Pattern.sub" :=
  .of (owner := "re.Pattern") (n := "sub") (by rw [typeLookup_type, builtinLookup_eq_fast]; kernel_rfl) (by decide +kernel) (by decide +kernel) (by decide +kernel)
    (by first | exact .inl (by decide +kernel) | exact .inr (by decide +kernel)) (by rw [isSubtype_type]; kernel_rfl)
theorem type_sub : typeOf (.builtin "re.Pattern.sub") = pure (.type "method_descriptor") := by show builtinType _ = _; rw [builtinType_eq_fast]; kernel_rfl
theorem entry_sub : entryFor table "re.Pattern.sub" = some Builtin.«re.Pattern.sub» := entryFor_of_tree (by kernel_rfl)
theorem entry_loop : entryFor table "re.Pattern.sub.loop" = some Builtin.«re.Pattern.sub.loop» := entryFor_of_tree (by kernel_rfl)
theorem plainAttrs_re : PlainAttrs "re.Pattern" :=
  ⟨⟨"object.__getattribute__", by rw [typeLookup_type, builtinLookup_eq_fast]; kernel_rfl, by decide +kernel⟩, by rw [typeLookup_type, builtinLookup_eq_fast]; kernel_rfl⟩
theorem args_sub_3 (a b c : Value) : argsOk "re.Pattern.sub" ⟨[a, b, c], []⟩ := by unfold argsOk; kernel_rfl
theorem runFor_done {m : M} (h : m.outcome.isSome = true) : ∀ k, m.runFor k = m
  | 0 => rfl
  | k + 1 => by show (if m.outcome.isSome then m else _) = _; rw [h]; rfl
theorem runFor_add : ∀ (a b : Nat) (m : M), m.runFor (a + b) = (m.runFor a).runFor b
  | 0, b, m => by rw [Nat.zero_add]; rfl
  | a + 1, b, m => by
    rw [show a + 1 + b = (a + b) + 1 by omega]
    show (if m.outcome.isSome then m else (m.step).runFor (a + b)) = (if m.outcome.isSome then m else (m.step).runFor a).runFor b
    cases h : m.outcome.isSome with
    | true => simp only [if_true]; rw [runFor_done h]
    | false => simp only [Bool.false_eq_true, if_false]; exact runFor_add a b m.step
section
variable {Md : Model} {A : Around} {E : Value → Shared → Prop} {s : Shared}
theorem drive {Q : M → Shared → Prop} : ∀ (turns k : Nat) (m0 m : M), m0.runFor k = m → m.outcome.isSome = true → k ≤ 4 * turns → 1 ≤ turns → Q m s → wpAny Md A (reDrive turns m0) Q E s
  | 0, k, m0, m, _, _, hk, ht, hq => by omega
  | turns + 1, k, m0, m, hm, ho, hk, ht, hq => by
    unfold reDrive
    show wpAny Md A (if (m0.runFor 4).outcome.isSome = true then pure (m0.runFor 4) else rule "sre.turn" >>= fun _ => reDrive turns (m0.runFor 4)) Q E s
    have key : k ≤ 4 ∨ (m0.runFor 4).outcome.isSome = true → m0.runFor 4 = m := by
      intro h
      rcases h with h | h
      · rw [show 4 = k + (4 - k) by omega, runFor_add, hm, runFor_done ho]
      · by_cases hk4 : k ≤ 4
        · rw [show 4 = k + (4 - k) by omega, runFor_add, hm, runFor_done ho]
        · rw [← hm, show k = 4 + (k - 4) by omega, runFor_add, runFor_done h]
    cases h : (m0.runFor 4).outcome.isSome with
    | true => simp only [if_true]; rw [key (.inr h)]; exact wpAny_pure hq
    | false =>
      simp only [Bool.false_eq_true, if_false]
      have hk4 : ¬ k ≤ 4 := fun hh => by rw [key (.inl hh), ho] at h; exact absurd h (by decide)
      refine wpAny_bind (wpAny_rule (drive turns (k - 4) (m0.runFor 4) m ?_ ho (by omega) (by omega) hq))
      rw [← runFor_add, ← hm]; congr 1; omega
theorem rules_loop {Q : Unit → Shared → Prop} (c : Nat → Bool) (n : Nat → String) (hq : Q () s) : ∀ (l : List Nat), wpAny Md A (forIn l () (fun i _ => (if c i = true then rule (n i) >>= fun _ => pure (ForInStep.yield ()) else pure (ForInStep.yield ()) : Sem (ForInStep Unit)))) Q E s
  | [] => by rw [List.forIn_nil]; exact wpAny_pure hq
  | i :: l => by
    rw [List.forIn_cons]
    refine wpAny_bind ?_
    have ih := rules_loop c n hq l
    cases c i with
    | true => exact wpAny_bind (wpAny_rule (wpAny_pure ih))
    | false => exact wpAny_pure ih
theorem runEnd {Q : Option M → Shared → Prop} {K : Nat} {m0 : M} {r : Option (Nat × Nat)} (h : Res m0 K r) (hK : K ≤ 2 ^ 64) (hq : match r with | none => Q none s | some (a, e) => ∀ m, m.start = a → m.handed = e → Q (some m) s) : wpAny Md A (reRunToEnd m0) Q E s := by
  obtain ⟨k, hk, m, hg, hm⟩ := h
  have e : m0.runFor k = m := hg 0
  have ho : m.outcome.isSome = true := by
    cases r with
    | none => dsimp only at hm; rw [hm]; rfl
    | some p => dsimp only at hm; rw [hm.1]; rfl
  unfold reRunToEnd
  refine wpAny_bind (drive (2 ^ 64) k m0 m e ho (by omega) (by decide) ?_)
  refine wpAny_bind (rules_loop _ _ ?_ _)
  cases r with
  | none => dsimp only at hm hq; rw [hm]; exact wpAny_pure hq
  | some p => dsimp only at hm hq; rw [hm.1]; exact wpAny_pure (hq m hm.2.1 hm.2.2)
end
end Mine
end P_Re2
section P_Re3
open PySem PySem.Builtin PySem.Builtin.Re PySem.Sre PySem.Calls PyProof.Rows
set_option linter.unusedVariables false
set_option maxRecDepth 100000
namespace Mine
noncomputable def cut (T rep : Array Nat) (F : Nat → Option (Nat × Nat)) : Nat → Nat → List PySem.Str
  | 0, _ => []
  | f + 1, d => match F d with
    | none => if d < T.size then [⟨T.extract d T.size⟩] else []
    | some (a, e) => (if d < a then [⟨T.extract d a⟩] else []) ++ ⟨rep⟩ :: cut T rep F f e
/-- a compiled pattern stands in the heap -/
structure IsPat (h : Heap) (pa pc : Addr) (code : Array Nat) : Prop where
  pat : ∃ o p fl tf, h.get? pa = some o ∧ o.cls = .type "re.Pattern" ∧ o.data = .fields #[p, .int fl tf, .int 0 0, .none, .none, .ref pc, .int 0 0]
  tup : ∃ o items n, h.get? pc = some o ∧ o.data = .seq items n ∧ (items.map reRawOf).map (·.toNat) = code
theorem IsPat.ext {h h' : Heap} {pa pc D : Addr} {code : Array Nat} (p : IsPat h pa pc code) (x : Heap.ExtBut D h h') (h1 : pa ≠ D) (h2 : pc ≠ D) : IsPat h' pa pc code := by
  obtain ⟨⟨o, q, fl, tf, e, c, d⟩, ⟨o', items, n, e', d', m⟩⟩ := p
  exact ⟨⟨o, q, fl, tf, x _ _ h1 e, c, d⟩, ⟨o', items, n, x _ _ h2 e', d', m⟩⟩
section
variable {Md : Model} {A : Around} {E : Value → Shared → Prop} {s : Shared}
noncomputable def tgt (pa : Addr) (x : PySem.Str) (t : Tok) (code : Array Nat) : ReTarget := { pattern := .ref pa, string := .str x t, code, text := x.cps, kind := 0, groups := 0, pos := 0, lim := x.cps.size }
theorem whole {pa pc : Addr} {code : Array Nat} {x : PySem.Str} {t : Tok} {Q : ReTarget → Shared → Prop} (p : IsPat s.heap pa pc code) (hq : Q (tgt pa x t code) s) : wpAny Md A (reWholeTarget (.ref pa) (.str x t)) Q E s := by
  obtain ⟨⟨o, q, fl, tf, e, c, d⟩, ⟨o', items, n, e', d', m⟩⟩ := p
  unfold reWholeTarget
  refine wpAny_bind (wpAny_fieldsOf e d ?_)
  show wpAny _ _ (reRawItems (.ref pc) >>= fun r => (pure (ReTarget.mk (.ref pa) (.str x t) (r.map (·.toNat)) x.cps 0 0 0 x.cps.size) : Sem ReTarget)) _ _ _
  refine wpAny_bind ?_
  unfold reRawItems
  refine wpAny_bind (wpAny_seqItems e' d' (wpAny_pure (wpAny_pure ?_)))
  show Q (ReTarget.mk (.ref pa) (.str x t) ((items.map reRawOf).map (·.toNat)) x.cps 0 0 0 x.cps.size) s
  rw [m]
  exact hq
end
theorem ext_update (h : Heap) (D : Addr) (f : Obj → Obj) : Heap.ExtBut D h (h.update D f) := fun b o hb e => by
  rw [Heap.get?_update_other h f (Ne.symm hb)]; exact e
theorem strs_push (l : List (PySem.Str × Tok)) (p : PySem.Str × Tok) : (strValues l).toArray.push (.str p.1 p.2) = (strValues (l ++ [p])).toArray := by simp [strValues]
section
variable {prog : Program} {w : World} {A : Around} {E : Value → Shared → Prop}
/-- a push of a str onto the list of pieces -/
theorem pushS {M : Model} {s : Shared} {D : Addr} {l : List (PySem.Str × Tok)} {y : PySem.Str} {u : Tok} {Q : Unit → Shared → Prop} (hD : s.heap.IsList D (strValues l).toArray) (hl : l.length ≤ 4194304)
    (h : ∀ h', h'.IsList D (strValues (l ++ [(y, u)])).toArray → Heap.ExtBut D s.heap h' → Q () { s with heap := h' }) : wpAny M A (updateSeq D (·.push (.str y u))) Q E s := by
  obtain ⟨o, ho, hc, n, hd⟩ := hD
  have hs : (strValues l).toArray.size ≤ 4194304 := by simpa [strValues] using hl
  refine wpAny_updateSeq ho hd (h _ ?_ (ext_update _ _ _)) (by rw [sizeLine_eq]; (first | lia | omega)) (by rw [Array.size_push, sizeLine_eq]; (first | lia | omega))
  obtain ⟨c, d, dt, sl⟩ := o
  simp only at hd hc; subst hd
  exact ⟨_, Heap.get?_update_self _ ho (by rfl), hc, _, by show Data.seq ((strValues l).toArray.push (.str y u)) _ = _; rw [strs_push l (y, u)]⟩
theorem join_nil0 : (⟨(#[] : Array Nat)⟩ : PySem.Str) = Txt.join ⟨#[]⟩ [] := rfl
theorem loopC {code : Array Nat} {x : PySem.Str} {t tr : Tok} {rep : PySem.Str} {F : Nat → Option (Nat × Nat)} {pa pc D : Addr} {K : Nat}
    (hF : ∀ d, d ≤ x.cps.size → Res (forSearch code x.cps 0 d x.cps.size false) K (F d)) (hK : K ≤ 2 ^ 64) (hz : x.cps.size ≤ 1048576) (hFe : ∀ d a e, F d = some (a, e) → d ≤ a ∧ a < e ∧ e ≤ x.cps.size) (h1 : pa ≠ D) (h2 : pc ≠ D) :
    ∀ (f d : Nat) (l : List (PySem.Str × Tok)) (n : Int) (tn td ts : Tok) (A : Around) (R : Result → Shared → Prop) (s : Shared), x.cps.size + 1 ≤ f + d → d ≤ x.cps.size → l.length + 2 * f ≤ 4194304 → s.heap.IsList D (strValues l).toArray → IsPat s.heap pa pc code →
      JoinOk ⟨#[]⟩ (l.map (·.1) ++ cut x.cps rep.cps F f d) = true →
      (∀ t' h' k', Heap.ExtBut D s.heap h' → R (.ok (.ret (.str (Txt.join ⟨#[]⟩ (l.map (·.1) ++ cut x.cps rep.cps F f d)) t'))) { s with heap := h', toks := k' }) →
      codeAny (model prog w) A (.builtin "re.Pattern.sub.loop" ⟨[.ref pa, .str x t, .str rep tr, rawInt 0, rawInt 0, .int n tn, .int d td, .int d ts, .bool false, .ref D, .bool false], []⟩) R s
  | 0, d, l, n, tn, td, ts, A, R, s, hf, hd, _, _, _, _, _ => by (first | lia | omega)
  | f + 1, d, l, n, tn, td, ts, A, R, s, hf, hd, hl, hD, hP, hj, hR => by
    refine codeAny_builtin entry_loop ?_
    unfold «re.Pattern.sub.loop»
    refine wpAny_bind (whole hP ?_)
    refine wpAny_bind ?_
    have hres : ∀ (Q : Option M → Shared → Prop), (match F d with | none => Q none s | some (a, e) => ∀ m, m.start = a → m.handed = e → Q (some m) s) → wpAny (model prog w) (A.under (.builtin "re.Pattern.sub.loop" ⟨[.ref pa, .str x t, .str rep tr, rawInt 0, rawInt 0, .int n tn, .int d td, .int d ts, .bool false, .ref D, .bool false], []⟩)) (reNextFound (tgt pa x t code) (d : Int).toNat false) Q (fun e s' => R (.error e) s') s := by
      intro Q hq
      rw [Int.toNat_natCast]
      exact runEnd (hF d hd) hK hq
    have hcut : cut x.cps rep.cps F (f + 1) d = match F d with
      | none => if d < x.cps.size then [⟨x.cps.extract d x.cps.size⟩] else []
      | some (a, e) => (if d < a then [⟨x.cps.extract d a⟩] else []) ++ ⟨rep.cps⟩ :: cut x.cps rep.cps F f e := rfl
    show wpAny _ _ (pure ()) _ _ _
    refine wpAny_pure ?_
    show wpAny _ _ (reNextFound (tgt pa x t code) (d : Int).toNat false >>= _) _ _ _
    refine wpAny_bind (hres _ ?_)
    clear hres
    have fin : ∀ (l' : List (PySem.Str × Tok)) (s' : Shared), s'.heap.IsList D (strValues l').toArray → JoinOk ⟨#[]⟩ (l'.map (·.1)) = true → (∀ t' k', R (.ok (.ret (.str (Txt.join ⟨#[]⟩ (l'.map (·.1))) t'))) { s' with toks := k' }) →
        wpAny (model prog w) (A.under (.builtin "re.Pattern.sub.loop" ⟨[.ref pa, .str x t, .str rep tr, rawInt 0, rawInt 0, .int n tn, .int d td, .int d ts, .bool false, .ref D, .bool false], []⟩)) (reSlice x.cps 0 0 0 >>= fun joiner => seqItems? (.ref D) >>= fun r => if (r.getD #[]).isEmpty = true then (pure joiner >>= fun text => ret text) else (call (.builtin "str.join") [joiner, .ref D] >>= fun text => ret text))
          (fun fin s' => match fin with | .done f => R (.ok f) s' | .again c' => c'.quiet = true ∧ codeAny (model prog w) A c' R s') (fun e s' => R (.error e) s') s' := by
      intro l' s' hD' hj' hR'
      have e0 : x.cps.extract 0 0 = #[] := by simp
      have hD0 := hD'
      obtain ⟨o, ho, hc, k, hdd⟩ := hD'
      refine wpAny_bind ?_
      show wpAny _ _ (mkStr ⟨x.cps.extract 0 0⟩) _ _ _
      rw [e0]
      refine wpAny_mkStr (wpAny_bind (wpAny_seqItems ho hdd ?_)) (by decide)
      cases l' with
      | nil => exact wpAny_bind (wpAny_pure (wpAny_pure (hR' _ _)))
      | cons p l' =>
        show wpAny _ _ (call (.builtin "str.join") [.str ⟨#[]⟩ _, .ref D] >>= fun text => ret text) _ _ _
        exact wpAny_bind (SC.join hD0 rfl hj' fun t' k' => wpAny_pure (hR' t' k'))
    cases hFd : F d with
    | none =>
      rw [hFd] at hcut
      dsimp only at hcut ⊢
      rw [hcut] at hj hR
      by_cases hlt : d < x.cps.size
      · rw [if_pos hlt] at hj hR
        show wpAny _ _ (if (d : Int).toNat < x.cps.size then _ else _) _ _ _
        rw [Int.toNat_natCast, if_pos hlt]
        refine wpAny_bind ?_
        show wpAny _ _ (mkStr ⟨x.cps.extract d x.cps.size⟩) _ _ _
        refine wpAny_mkStr (wpAny_bind (pushS hD (by (first | lia | omega)) fun h' hD' hx => ?_)) (by show (x.cps.extract d x.cps.size).size ≤ _; rw [Array.size_extract, sizeLine_eq]; (first | lia | omega))
        refine fin (l ++ [(⟨x.cps.extract d x.cps.size⟩, s.toks)]) _ hD' (by simpa using hj) fun t' k' => ?_
        have := hR t' h' k' hx
        simpa using this
      · rw [if_neg hlt] at hj hR
        show wpAny _ _ (if (d : Int).toNat < x.cps.size then _ else _) _ _ _
        rw [Int.toNat_natCast, if_neg hlt]
        refine fin l _ hD (by simpa using hj) fun t' k' => ?_
        have := hR t' s.heap k' (Heap.ExtBut.refl _ _)
        simpa using this
    | some p =>
      obtain ⟨a, e⟩ := p
      rw [hFd] at hcut
      dsimp only at hcut ⊢
      intro m hm1 hm2
      rw [hcut] at hj hR
      have hae := hFe d a e hFd
      have rest : ∀ (l' : List (PySem.Str × Tok)) (s' : Shared), l'.length ≤ l.length + 1 → s'.heap.IsList D (strValues l').toArray → Heap.ExtBut D s.heap s'.heap → l'.map (·.1) ++ ⟨rep.cps⟩ :: cut x.cps rep.cps F f e = l.map (·.1) ++ ((if d < a then [⟨x.cps.extract d a⟩] else []) ++ ⟨rep.cps⟩ :: cut x.cps rep.cps F f e) → (∃ k, s' = { s with heap := s'.heap, toks := k }) →
          wpAny (model prog w) (A.under (.builtin "re.Pattern.sub.loop" ⟨[.ref pa, .str x t, .str rep tr, rawInt 0, rawInt 0, .int n tn, .int d td, .int d ts, .bool false, .ref D, .bool false], []⟩)) (pure (Value.str rep tr) >>= fun item => updateSeq D (·.push item) >>= fun _ => again (.builtin "re.Pattern.sub.loop" ⟨[.ref pa, .str x t, .str rep tr, rawInt 0, rawInt 0, rawInt (n + 1), rawInt m.handed, rawInt m.handed, .bool (m.handed == m.start), .ref D, .bool false], []⟩))
            (fun fin s' => match fin with | .done f => R (.ok f) s' | .again c' => c'.quiet = true ∧ codeAny (model prog w) A c' R s') (fun e s' => R (.error e) s') s' := by
        intro l' s' hl' hD' hx' he ⟨k, hs'⟩
        refine wpAny_bind (wpAny_pure (wpAny_bind (pushS hD' (by (first | lia | omega)) fun h' hD2 hx2 => wpAny_pure ⟨Code.quiet_builtin _ (by decide +kernel), ?_⟩)))
        have e1 : (m.handed == m.start) = false := by rw [hm1, hm2]; exact beq_eq_false_iff_ne.mpr (by (first | lia | omega))
        rw [e1, hm2]
        refine loopC hF hK hz hFe h1 h2 f e (l' ++ [(rep, tr)]) (n + 1) 0 0 0 A R _ (by (first | lia | omega)) hae.2.2 (by rw [List.length_append]; simp only [List.length_cons, List.length_nil]; (first | lia | omega)) hD2 (hP.ext (hx'.trans hx2) h1 h2) ?_ fun t' h'' k' hx3 => ?_
        · rw [List.map_append, List.append_assoc]; exact he ▸ hj
        · have := hR t' h'' k' ((hx'.trans hx2).trans hx3)
          rw [← he] at this
          rw [List.map_append, List.append_assoc]
          rw [hs']
          exact this
      by_cases hlt : d < a
      · show wpAny _ _ (if (d : Int).toNat < m.start then _ else _) _ _ _
        rw [Int.toNat_natCast, hm1, if_pos hlt]
        refine wpAny_bind ?_
        show wpAny _ _ (mkStr ⟨x.cps.extract d a⟩) _ _ _
        refine wpAny_mkStr (wpAny_bind (pushS hD (by (first | lia | omega)) fun h' hD' hx => ?_)) (by show (x.cps.extract d a).size ≤ _; rw [Array.size_extract, sizeLine_eq]; (first | lia | omega))
        rw [hm1] at rest
        refine rest (l ++ [(⟨x.cps.extract d a⟩, s.toks)]) _ (by simp) hD' hx ?_ ⟨_, rfl⟩
        rw [if_pos hlt]; simp
      · show wpAny _ _ (if (d : Int).toNat < m.start then _ else _) _ _ _
        rw [Int.toNat_natCast, hm1, if_neg hlt]
        rw [hm1] at rest
        refine rest l s (by (first | lia | omega)) hD (Heap.ExtBut.refl _ _) ?_ ⟨_, rfl⟩
        rw [if_neg hlt]; simp
end
end Mine
end P_Re3
section P_Re4
open PySem PySem.Builtin PySem.Builtin.Re PySem.Sre PySem.Calls PyProof.Rows
set_option linter.unusedVariables false
set_option maxRecDepth 100000
namespace Mine
noncomputable def F1 (T : Array Nat) (d : Nat) : Option (Nat × Nat) := (find1 T (T.size + 1 - d) d).map fun a => (a, a + 1)
noncomputable def F2 (T : Array Nat) (d : Nat) : Option (Nat × Nat) := (find2 T (T.size + 1 - d) d).map fun a => (a, end2 T a)
theorem find1_lt (T : Array Nat) : ∀ (f s a : Nat), find1 T f s = some a → s ≤ a ∧ a < T.size ∧ hit1 T a = true
  | 0, s, a, h => by simp [find1] at h
  | f + 1, s, a, h => by
    unfold find1 at h
    split at h
    · simp at h
    · split at h
      · rename_i h1 h2
        simp at h; subst h; exact ⟨Nat.le_refl _, by (first | lia | omega), h2⟩
      · have := find1_lt T f (s + 1) a h; exact ⟨by (first | lia | omega), this.2⟩
theorem hF1 (T : Array Nat) (d : Nat) (hd : d ≤ T.size) : Res (forSearch P1 T 0 d T.size false) (4 * T.size + 9) (F1 T d) := by
  by_cases h : d < T.size
  · rw [forSearch1 h]
    exact (search1 T (T.size + 1 - d) d true σ0 (by (first | lia | omega)) hd).le (by (first | lia | omega))
  · have e : F1 T d = none := by
      have : d = T.size := by (first | lia | omega)
      subst this
      unfold F1
      rw [show T.size + 1 - T.size = 0 + 1 by (first | lia | omega)]
      show Option.map _ (if T.size ≥ T.size then none else _) = none
      rw [if_pos (Nat.le_refl _)]; rfl
    rw [e]
    obtain ⟨m, g, hm⟩ := forSearch_past (code := P1) (T := T) (s := d) rfl (by (first | lia | omega))
    exact ⟨1, by (first | lia | omega), m, g, hm⟩
theorem hF2 (T : Array Nat) (d : Nat) (hd : d ≤ T.size) : Res (forSearch P2 T 0 d T.size false) (4 * T.size + 99) (F2 T d) := by
  by_cases h : d < T.size
  · rw [forSearch2 h]
    exact (search2 T d σ0 h).le (by (first | lia | omega))
  · have e : F2 T d = none := by
      have : d = T.size := by (first | lia | omega)
      subst this
      unfold F2
      rw [show T.size + 1 - T.size = 0 + 1 by (first | lia | omega)]
      show Option.map _ (if T.size ≥ T.size then none else _) = none
      rw [if_pos (Nat.le_refl _)]; rfl
    rw [e]
    obtain ⟨m, g, hm⟩ := forSearch_past (code := P2) (T := T) (s := d) rfl (by (first | lia | omega))
    exact ⟨1, by (first | lia | omega), m, g, hm⟩
theorem hFe1 (T : Array Nat) (d a e : Nat) (h : F1 T d = some (a, e)) : d ≤ a ∧ a < e ∧ e ≤ T.size := by
  unfold F1 at h
  cases hf : find1 T (T.size + 1 - d) d with
  | none => rw [hf] at h; simp at h
  | some b =>
    rw [hf] at h
    simp at h
    have := find1_lt T _ _ _ hf
    (first | lia | omega)
theorem end2_le {T : Array Nat} {s : Nat} (h : s < T.size) : s < end2 T s ∧ end2 T s ≤ T.size := by
  have e : (end2 T s = s + 2 ∧ s + 1 < T.size) ∨ end2 T s = s + 1 := by
    by_cases c : (T.getD s 0 == 13 && (decide (s + 1 < T.size) && T.getD (s + 1) 0 == 10)) = true
    · exact .inl ⟨if_pos c, by simp only [Bool.and_eq_true, decide_eq_true_eq] at c; exact c.2.1⟩
    · exact .inr (if_neg c)
  (first | lia | omega)
theorem hFe2 (T : Array Nat) (d a e : Nat) (h : F2 T d = some (a, e)) : d ≤ a ∧ a < e ∧ e ≤ T.size := by
  unfold F2 at h
  cases hf : find2 T (T.size + 1 - d) d with
  | none => rw [hf] at h; simp at h
  | some b =>
    rw [hf] at h
    simp at h
    have := find2_lt T _ _ _ hf
    have := end2_le this.2.1
    (first | lia | omega)
theorem look_call : typeLookup (.type "str") (PySem.Str.ofString "__call__") = pure none := by rw [typeLookup_type, builtinLookup_eq_fast]; kernel_rfl
section
variable {prog : Program} {w : World} {A : Around} {E : Value → Shared → Prop} {s : Shared}
noncomputable def subSpec (pa pc : Addr) (code : Array Nat) (out : PySem.Str) : PySem.Spec := fun A R s => IsPat s.heap pa pc code ∧
  (∀ t' h' k', (∀ b o, s.heap.get? b = some o → h'.get? b = some o) → R (.ok (.ret (.str out t'))) { s with heap := h', toks := k' })
theorem meets_sub {pa pc : Addr} {code : Array Nat} {rep x : PySem.Str} {tr t : Tok} {F : Nat → Option (Nat × Nat)} {K : Nat} (h92 : rep.cps.contains 92 = false)
    (hF : ∀ d, d ≤ x.cps.size → Res (forSearch code x.cps 0 d x.cps.size false) K (F d)) (hK : K ≤ 2 ^ 64) (hz : x.cps.size ≤ 1048576) (hFe : ∀ d a e, F d = some (a, e) → d ≤ a ∧ a < e ∧ e ≤ x.cps.size)
    (hj : JoinOk ⟨#[]⟩ (cut x.cps rep.cps F (x.cps.size + 1) 0) = true) :
    Meets («re.Pattern.sub» ⟨[.ref pa, .str rep tr, .str x t], []⟩) (subSpec pa pc code (Txt.join ⟨#[]⟩ (cut x.cps rep.cps F (x.cps.size + 1) 0))) := by
  intro prog w A R s ⟨hP, hR⟩
  have e0 : reNamed "re.Pattern.sub" "sub" ["repl", "string", "count"] 2 [.str rep tr, .str x t] [] = pure [some (.str rep tr), some (.str x t), none] := by kernel_rfl
  unfold «re.Pattern.sub» reSubstitute
  show wpAny _ _ (reNamed "re.Pattern.sub" "sub" ["repl", "string", "count"] 2 [.str rep tr, .str x t] [] >>= _) _ _ _
  rw [e0]
  refine wpAny_bind (wpAny_pure ?_)
  show wpAny _ _ (pure 0 >>= _) _ _ _
  refine wpAny_bind (wpAny_pure ?_)
  refine wpAny_bind (wpAny_specialOf_val (T := "str") rfl look_call ?_)
  show wpAny _ _ (asStr? (.str rep tr) >>= _) _ _ _
  refine wpAny_bind (wpAny_pure ?_)
  show wpAny _ _ ((pure !rep.cps.contains 92 : Sem Bool) >>= _) _ _ _
  rw [h92]
  refine wpAny_bind (wpAny_pure ?_)
  show wpAny _ _ (pure (Value.str rep tr, 0) >>= _) _ _ _
  refine wpAny_bind (wpAny_pure ?_)
  refine wpAny_bind (wpAny_holding (whole hP ?_))
  show wpAny _ _ (newList [] >>= _) _ _ _
  have hpa : pa ≠ s.heap.objs.size := by
    obtain ⟨⟨o, q, fl, tf, e, c, d⟩, _⟩ := hP
    exact fun e' => absurd (e' ▸ Heap.lt_size e) (Nat.lt_irrefl _)
  have hpc : pc ≠ s.heap.objs.size := by
    obtain ⟨_, ⟨o, items, n, e, d, m⟩⟩ := hP
    exact fun e' => absurd (e' ▸ Heap.lt_size e) (Nat.lt_irrefl _)
  have hgrow : ∀ b o, s.heap.get? b = some o → (s.heap.push { cls := .type "list", data := .seq ([] : List Value).toArray }).get? b = some o := fun b o e => Heap.get?_push_of_some _ e
  refine wpAny_bind (wpAny_newList (wpAny_pure ⟨Code.quiet_builtin _ (by decide +kernel), ?_⟩) (by decide))
  refine loopC hF hK hz hFe hpa hpc (x.cps.size + 1) 0 [] 0 0 0 0 A R _ (by (first | lia | omega)) (Nat.zero_le _) (by simp only [List.length_nil]; (first | lia | omega)) ⟨_, Heap.get?_push_size _ rfl, rfl, _, rfl⟩ ?_ (by simpa using hj) fun t' h' k' hx => ?_
  · obtain ⟨⟨o, q, fl, tf, e, c, d⟩, ⟨o', items, n, e', d', m⟩⟩ := hP
    exact ⟨⟨o, q, fl, tf, hgrow _ _ e, c, d⟩, ⟨o', items, n, hgrow _ _ e', d', m⟩⟩
  · exact hR t' h' k' fun b o e => hx b o (fun e' => absurd (e' ▸ Heap.lt_size e) (Nat.lt_irrefl _)) (hgrow _ _ e)
theorem subCall {pa pc : Addr} {code : Array Nat} {rep x : PySem.Str} {tr t : Tok} {F : Nat → Option (Nat × Nat)} {K : Nat} {Q : Value → Shared → Prop} (h92 : rep.cps.contains 92 = false)
    (hF : ∀ d, d ≤ x.cps.size → Res (forSearch code x.cps 0 d x.cps.size false) K (F d)) (hK : K ≤ 2 ^ 64) (hz : x.cps.size ≤ 1048576) (hFe : ∀ d a e, F d = some (a, e) → d ≤ a ∧ a < e ∧ e ≤ x.cps.size)
    (hj : JoinOk ⟨#[]⟩ (cut x.cps rep.cps F (x.cps.size + 1) 0) = true) (hP : IsPat s.heap pa pc code)
    (h : ∀ t' h' k', (∀ b o, s.heap.get? b = some o → h'.get? b = some o) → Q (.str (Txt.join ⟨#[]⟩ (cut x.cps rep.cps F (x.cps.size + 1) 0)) t') { s with heap := h', toks := k' }) :
    wpAny (model prog w) A (call (.builtin "re.Pattern.sub") [.ref pa, .str rep tr, .str x t]) Q E s := by
  have hT : s.TypeIs (.ref pa) "re.Pattern" := by
    obtain ⟨⟨o, q, fl, tf, e, c, d⟩, _⟩ := hP
    exact ⟨o, e, c⟩
  exact call_meets slot_sub hT entry_sub (args_sub_3 _ _ _) (meets_sub h92 hF hK hz hFe hj) ⟨hP, h⟩
theorem subMeth {M : Model} {pa pc : Addr} {code : Array Nat} {pl : Sem Bool} {Q : Value × List Value → Shared → Prop} (hP : IsPat s.heap pa pc code) (hd : ∃ o, s.heap.get? pa = some o ∧ o.dict = none) (h : Q (.builtin "re.Pattern.sub", [.ref pa]) s) : wpAny M A (getMethod (.ref pa) "sub" pl) Q E s := by
  have hT : s.TypeIs (.ref pa) "re.Pattern" := by
    obtain ⟨⟨o, q, fl, tf, e, c, d⟩, _⟩ := hP
    exact ⟨o, e, c⟩
  exact getMethod_builtin hT plainAttrs_re slot_sub type_sub (fun a e => by cases e; exact hd) h
end
end Mine
end P_Re4
section P_Enc
open PySem PySem.Builtin PySem.Builtin._codecs
set_option linter.unusedVariables false
namespace Mine
noncomputable def encB (c : TextCodec) (s : PySem.Str) : Array UInt8 := s.cps.foldl (fun acc y => acc ++ (c.bytesOf y).toArray) #[]
theorem findIdx_none {c : TextCodec} {a : Array Nat} (hb : ∀ x ∈ a.toList, c.bad x = false) : a.findIdx? c.bad = none := by
  rw [Array.findIdx?_eq_none_iff]
  intro x hx
  exact hb x (Array.mem_toList_iff.mpr hx)
theorem forIn_two {σ : Type} {l : List Nat} {f : Nat → σ → Sem (ForInStep σ)} {s0 s1 : σ} (hl : l ≠ []) (h0 : ∀ a, f a s0 = pure (.yield s1)) (h1 : ∀ a, f a s1 = pure (.done s1)) : forIn l s0 f = pure s1 := by
  cases l with
  | nil => exact absurd rfl hl
  | cons a l =>
    rw [List.forIn_cons, h0]
    show forIn l s1 f = _
    cases l with
    | nil => rfl
    | cons b l => rw [List.forIn_cons, h1]; rfl
theorem range_ne {n : Nat} (h : n ≠ 0) : List.range' [:n].start [:n].size [:n].step ≠ [] := by
  cases n with
  | zero => exact absurd rfl h
  | succ n => simp [Std.Legacy.Range.size, List.range']
theorem encNarrow {id : String} {c : TextCodec} {self : Value} {s : PySem.Str} (hb : ∀ x ∈ s.cps.toList, c.bad x = false) (hz : (encB c s).size ≤ sizeLine) : encodeNarrow id c none self s = pure (encB c s) := by
  have hfi2 : s.cps.findIdx? c.bad = none := findIdx_none hb
  have hE : s.cps.extract 0 s.cps.size = s.cps := Array.extract_size
  have hz0 : ¬ (#[] : Array UInt8).size > sizeLine := by decide
  have hz' : ¬ (encB c s).size > sizeLine := Nat.not_lt.mpr hz
  have hend : s.cps[0 + s.cps.size]? = none := by simp
  unfold encodeNarrow
  dsimp only
  rw [Std.Legacy.Range.forIn_eq_forIn_range']
  by_cases hn : s.cps.size = 0
  · have he : s.cps = #[] := Array.eq_empty_of_size_eq_zero hn
    have hl : s.length = 0 := hn
    rw [hl]
    show (pure #[] : Sem (Array UInt8)) = pure (encB c s)
    rw [encB, he]; rfl
  · have h0 : s.cps[0]? = some (s.cps[0]'(by (first | lia | omega))) := Array.getElem?_eq_getElem (by (first | lia | omega))
    have hx0 : c.bad (s.cps[0]'(by (first | lia | omega))) = false := hb _ (by simp)
    rw [forIn_two (s1 := (0 + s.cps.size, encB c s, ({} : Faults))) (range_ne (n := s.length) hn) (fun a => ?_) (fun a => ?_)]
    · rfl
    · dsimp only
      rw [if_neg hz0, h0]
      dsimp only
      rw [hx0, hE, hfi2]
      dsimp only [Option.getD]
      rw [hE]
      rfl
    · dsimp only
      rw [if_neg hz', hend]
theorem getq (pre q : List UInt8) (k : Nat) : (pre ++ q).toArray[pre.length + k]? = q[k]? := by
  rw [List.getElem?_toArray, List.getElem?_append_right (Nat.le_add_right _ _), Nat.add_sub_cancel_left]
noncomputable def shapeF (c : Nat) : Option (Nat × Nat × Nat) :=
  if 0xC2 ≤ c && c ≤ 0xDF then some (1, 0x80, 0xBF)
  else if c == 0xE0 then some (2, 0xA0, 0xBF)
  else if c == 0xED then some (2, 0x80, 0x9F)
  else if 0xE1 ≤ c && c ≤ 0xEF then some (2, 0x80, 0xBF)
  else if c == 0xF0 then some (3, 0x90, 0xBF)
  else if 0xF1 ≤ c && c ≤ 0xF3 then some (3, 0x80, 0xBF)
  else if c == 0xF4 then some (3, 0x80, 0x8F)
  else none
theorem shape1 : ∀ a < 32, 2 ≤ a → shapeF (0xC0 + a) = some (1, 0x80, 0xBF) := by decide +kernel
theorem shape2 : ∀ a < 16, shapeF (0xE0 + a) = some (2, if a = 0 then 0xA0 else 0x80, if a = 13 then 0x9F else 0xBF) := by decide +kernel
theorem shape3 : ∀ a < 5, shapeF (0xF0 + a) = some (3, if a = 0 then 0x90 else 0x80, if a = 4 then 0x8F else 0xBF) := by decide +kernel
noncomputable def stepF (b : Array UInt8) (p lo hi : Nat) (acc : Except (Nat × String) Nat) (k : Nat) : Except (Nat × String) Nat :=
  acc.bind fun v =>
    match b[p + k]? with
    | none => .error (b.size, "unexpected end of data")
    | some x =>
      if (if k == 1 then lo else 0x80) ≤ x.toNat && x.toNat ≤ (if k == 1 then hi else 0xBF) then .ok (v * 64 + x.toNat % 64)
      else .error (p + k, "invalid continuation byte")
theorem stepF_ok {b : Array UInt8} {p lo hi v k : Nat} {x : UInt8} (g : b[p + k]? = some x) (h1 : (if k == 1 then lo else 0x80) ≤ x.toNat) (h2 : x.toNat ≤ (if k == 1 then hi else 0xBF)) :
    stepF b p lo hi (.ok v) k = .ok (v * 64 + x.toNat % 64) := by
  show (match b[p + k]? with
    | none => Except.error (b.size, "unexpected end of data")
    | some x => if (if k == 1 then lo else 0x80) ≤ x.toNat && x.toNat ≤ (if k == 1 then hi else 0xBF) then .ok (v * 64 + x.toNat % 64) else .error (p + k, "invalid continuation byte")) = _
  rw [g]
  exact if_pos (Bool.and_eq_true_iff.mpr ⟨decide_eq_true h1, decide_eq_true h2⟩)
theorem at_eq {b : Array UInt8} {p x0 more lo hi v : Nat} (h0 : (b.getD p 0).toNat = x0) (hx : ¬ x0 < 0x80) (hs : shapeF x0 = some (more, lo, hi))
    (h : ((List.range more).map (· + 1)).foldl (stepF b p lo hi) (.ok (x0 % (if more == 1 then 32 else if more == 2 then 16 else 8))) = .ok v) : Bytes.utf8At b p = (.char v, p + more + 1) := by
  show (if (b.getD p 0).toNat < 0x80 then (Bytes.Piece.char (b.getD p 0).toNat, p + 1) else
    match shapeF (b.getD p 0).toNat with
    | none => (.bad p (p + 1) "invalid start byte", p + 1)
    | some (more, lo, hi) => match ((List.range more).map (· + 1)).foldl (stepF b p lo hi) (.ok ((b.getD p 0).toNat % (if more == 1 then 32 else if more == 2 then 16 else 8))) with
      | .ok v => (.char v, p + more + 1)
      | .error (stop, reason) => (.bad p stop reason, stop)) = _
  rw [h0, if_neg hx, hs]
  dsimp only
  rw [h]
theorem u8n {n : Nat} (h : n < 256) : n.toUInt8.toNat = n := Nat.mod_eq_of_lt h
theorem m64 (n : Nat) : n % 64 < 64 := Nat.mod_lt n (by decide)
theorem tail6 {n : Nat} : ((0x80 + n % 64).toUInt8.toNat = 0x80 + n % 64) ∧ 0x80 ≤ (0x80 + n % 64) ∧ 0x80 + n % 64 ≤ 0xBF ∧ (0x80 + n % 64) % 64 = n % 64 :=
  ⟨u8n (Nat.lt_of_lt_of_le (Nat.add_lt_add_left (m64 n) _) (by decide)), Nat.le_add_right _ _, Nat.le_of_lt_succ (Nat.add_lt_add_left (m64 n) 0x80),
    (Nat.mul_add_mod 64 2 _).trans (Nat.mod_eq_of_lt (m64 n))⟩
theorem lt256 {k a n : Nat} (h : a < n) (hk : k + n ≤ 256) : (k + a).toUInt8.toNat = k + a := u8n (Nat.lt_of_lt_of_le (Nat.add_lt_add_left h k) hk)
theorem not80 {k a : Nat} (h : 0x80 ≤ k) : ¬ k + a < 0x80 := Nat.not_lt.mpr (Nat.le_trans h (Nat.le_add_right _ _))
theorem dig (c : Nat) : c / 64 * 64 + c % 64 = c := Nat.div_add_mod' c 64
theorem low6 {q : Nat} (h : q / 64 = 0) : q % 64 = q := by have := dig q; rw [h, Nat.zero_mul, Nat.zero_add] at this; exact this
theorem hi6 {q k : Nat} (h : q / 64 = k) : q = k * 64 + q % 64 := by rw [← h]; exact (dig q).symm
theorem utf8At_ok (pre post : List UInt8) (c : Nat) (h1 : c < 0x110000) (h2 : PySem.Str.isSurrogate c = false) : Bytes.utf8At (pre ++ (PySem.Str.utf8Of c ++ post)).toArray pre.length = (.char c, pre.length + (PySem.Str.utf8Of c).length) := by
  have gk : ∀ (y : UInt8) (q : List UInt8), (pre ++ (y :: q)).toArray.getD pre.length 0 = y := by
    intro y q
    have := getq pre (y :: q) 0
    rw [Nat.add_zero] at this
    rw [Array.getD_eq_getD_getElem?, this]; rfl
  unfold PySem.Str.utf8Of
  by_cases c1 : c < 0x80
  · rw [if_pos c1]
    have e2 : c.toUInt8.toNat = c := u8n (Nat.lt_trans c1 (by decide))
    have h0 : ((pre ++ ([c.toUInt8] ++ post)).toArray.getD pre.length 0).toNat = c := by rw [List.singleton_append, gk, e2]
    show (if ((pre ++ ([c.toUInt8] ++ post)).toArray.getD pre.length 0).toNat < 0x80 then (Bytes.Piece.char ((pre ++ ([c.toUInt8] ++ post)).toArray.getD pre.length 0).toNat, pre.length + 1) else _) = _
    rw [h0, if_pos c1]; rfl
  rw [if_neg c1]
  have t := tail6 (n := c)
  by_cases c2 : c < 0x800
  · rw [if_pos c2]
    have ha : c / 64 < 32 := Nat.div_lt_of_lt_mul c2
    have hb : 2 ≤ c / 64 := (Nat.le_div_iff_mul_le (by decide)).mpr (Nat.not_lt.mp c1)
    have hd := dig c
    generalize c / 64 = a at ha hb hd ⊢
    refine at_eq (x0 := 0xC0 + a) (by rw [List.cons_append, gk, lt256 ha (by decide)]) (not80 (by decide)) (shape1 a ha hb) ?_
    show stepF _ _ _ _ (.ok ((0xC0 + a) % 32)) 1 = _
    rw [stepF_ok (x := (0x80 + c % 64).toUInt8) (by rw [getq]; rfl) (by rw [t.1]; exact t.2.1) (by rw [t.1]; exact t.2.2.1), t.1, t.2.2.2, show (0xC0 + a) % 32 = a from (Nat.mul_add_mod 32 6 a).trans (Nat.mod_eq_of_lt ha), hd]
  rw [if_neg c2]
  have t1 := tail6 (n := c / 64)
  have q1 : 32 ≤ c / 64 := (Nat.le_div_iff_mul_le (by decide)).mpr (Nat.not_lt.mp c2)
  have hd := dig c
  by_cases c3 : c < 0x10000
  · rw [if_pos c3]
    have ha : c / 4096 < 16 := Nat.div_lt_of_lt_mul c3
    have hd1 := dig (c / 64)
    have hq : c / 64 / 64 = c / 4096 := Nat.div_div_eq_div_mul ..
    have l1 : (if c / 4096 = 0 then 0xA0 else 0x80) ≤ 0x80 + c / 64 % 64 := by
      split
      · next h => rw [low6 (hq.trans h)]; exact Nat.add_le_add_left q1 _
      · exact t1.2.1
    have u1 : 0x80 + c / 64 % 64 ≤ (if c / 4096 = 13 then 0x9F else 0xBF) := by
      split
      · next h =>
        have e := hi6 (hq.trans h)
        refine Nat.add_le_add_left (m := 31) (Nat.le_of_not_lt fun h3 => ?_) _
        have lo : 0xD800 ≤ c := by rw [← hd, e]; clear e; generalize c / 64 % 64 = z at h3; (first | lia | omega)
        have up : c ≤ 0xDFFF := by have := m64 (c / 64); have := m64 c; rw [← hd, e]; clear e; generalize c / 64 % 64 = z at *; generalize c % 64 = y at *; (first | lia | omega)
        have : PySem.Str.isSurrogate c = true := Bool.and_eq_true_iff.mpr ⟨decide_eq_true lo, decide_eq_true up⟩
        rw [h2] at this; cases this
      · exact t1.2.2.1
    rw [hq] at hd1
    generalize c / 4096 = a at ha hd1 l1 u1 ⊢
    refine at_eq (x0 := 0xE0 + a) (by rw [List.cons_append, gk, lt256 ha (by decide)]) (not80 (by decide)) (shape2 _ ha) ?_
    show stepF _ _ _ _ (stepF _ _ _ _ (.ok ((0xE0 + a) % 16)) 1) 2 = _
    rw [stepF_ok (x := (0x80 + c / 64 % 64).toUInt8) (by rw [getq]; rfl) (by rw [t1.1]; exact l1) (by rw [t1.1]; exact u1), t1.1, t1.2.2.2,
      stepF_ok (x := (0x80 + c % 64).toUInt8) (by rw [getq]; rfl) (by rw [t.1]; exact t.2.1) (by rw [t.1]; exact t.2.2.1), t.1, t.2.2.2, show (0xE0 + a) % 16 = a from (Nat.mul_add_mod 16 14 a).trans (Nat.mod_eq_of_lt ha), hd1, hd]
  · rw [if_neg c3]
    have t2 := tail6 (n := c / 4096)
    have ha : c / 262144 < 5 := Nat.div_lt_of_lt_mul (Nat.lt_of_lt_of_le h1 (by decide))
    have q2 : 16 ≤ c / 4096 := (Nat.le_div_iff_mul_le (by decide)).mpr (Nat.not_lt.mp c3)
    have hd1 := dig (c / 64)
    have hd2 := dig (c / 4096)
    have hq : c / 64 / 64 = c / 4096 := Nat.div_div_eq_div_mul ..
    have hq2 : c / 4096 / 64 = c / 262144 := Nat.div_div_eq_div_mul ..
    have l1 : (if c / 262144 = 0 then 0x90 else 0x80) ≤ 0x80 + c / 4096 % 64 := by
      split
      · next h => rw [low6 (hq2.trans h)]; exact Nat.add_le_add_left q2 _
      · exact t2.2.1
    have u1 : 0x80 + c / 4096 % 64 ≤ (if c / 262144 = 4 then 0x8F else 0xBF) := by
      split
      · next h =>
        have e := hi6 (hq2.trans h)
        have up : c / 4096 < 272 := Nat.div_lt_of_lt_mul h1
        refine Nat.add_le_add_left (m := 15) (Nat.le_of_not_lt fun h3 => ?_) _
        rw [e] at up; clear e
        generalize c / 4096 % 64 = z at h3 up; (first | lia | omega)
      · exact t2.2.2.1
    rw [hq] at hd1
    rw [hq2] at hd2
    generalize c / 262144 = a at ha hd2 l1 u1 ⊢
    refine at_eq (x0 := 0xF0 + a) (by rw [List.cons_append, gk, lt256 ha (by decide)]) (not80 (by decide)) (shape3 _ ha) ?_
    show stepF _ _ _ _ (stepF _ _ _ _ (stepF _ _ _ _ (.ok ((0xF0 + a) % 8)) 1) 2) 3 = _
    rw [stepF_ok (x := (0x80 + c / 4096 % 64).toUInt8) (by rw [getq]; rfl) (by rw [t2.1]; exact l1) (by rw [t2.1]; exact u1), t2.1, t2.2.2.2,
      stepF_ok (x := (0x80 + c / 64 % 64).toUInt8) (by rw [getq]; rfl) (by rw [t1.1]; exact t1.2.1) (by rw [t1.1]; exact t1.2.2.1), t1.1, t1.2.2.2,
      stepF_ok (x := (0x80 + c % 64).toUInt8) (by rw [getq]; rfl) (by rw [t.1]; exact t.2.1) (by rw [t.1]; exact t.2.2.1), t.1, t.2.2.2, show (0xF0 + a) % 8 = a from (Nat.mul_add_mod 8 30 a).trans (Nat.mod_eq_of_lt (Nat.lt_of_lt_of_le ha (by decide))), hd2, hd1, hd]
noncomputable def utf8L (l : List Nat) : List UInt8 := l.flatMap PySem.Str.utf8Of
theorem utf8Of_pos (c : Nat) : 1 ≤ (PySem.Str.utf8Of c).length := by
  unfold PySem.Str.utf8Of
  split
  · simp
  · split
    · simp
    · split <;> simp
theorem utf8L_cons (c : Nat) (l : List Nat) : utf8L (c :: l) = PySem.Str.utf8Of c ++ utf8L l := rfl
theorem utf8L_length (l : List Nat) : l.length ≤ (utf8L l).length := by
  induction l with
  | nil => exact Nat.le_refl _
  | cons c l ih => rw [utf8L_cons, List.length_append, List.length_cons]; have := utf8Of_pos c; (first | lia | omega)
theorem dec_loop {τ : Type} (l : List Nat) (body : Nat → Nat × Array Nat × τ → Sem (ForInStep (Nat × Array Nat × τ)))
    (hstop : ∀ x (out : Array Nat) st, out.size ≤ sizeLine → body x ((utf8L l).length, out, st) = pure (.done ((utf8L l).length, out, st)))
    (hstep : ∀ x (pre : List UInt8) c post (out : Array Nat) st, c ∈ l → utf8L l = pre ++ (PySem.Str.utf8Of c ++ post) → out.size ≤ sizeLine → body x (pre.length, out, st) = pure (.yield (pre.length + (PySem.Str.utf8Of c).length, out ++ #[c], st))) :
    ∀ (rem : List Nat) (pre : List UInt8) (ks : List Nat) (out : Array Nat) st, (∀ c ∈ rem, c ∈ l) → utf8L l = pre ++ utf8L rem → rem.length ≤ ks.length → out.size + rem.length ≤ sizeLine →
      forIn ks (pre.length, out, st) body = pure ((utf8L l).length, out ++ rem.toArray, st)
  | [], pre, ks, out, st, _, he, hk, hz => by
    have e : pre.length = (utf8L l).length := by rw [he]; simp [utf8L]
    cases ks with
    | nil => simp [e]
    | cons k ks => rw [List.forIn_cons, e, hstop _ _ _ (by simpa using hz)]; simp
  | c :: rem, pre, [], out, st, _, he, hk, hz => by simp at hk
  | c :: rem, pre, k :: ks, out, st, hm, he, hk, hz => by
    rw [utf8L_cons] at he
    simp only [List.length_cons] at hk hz
    rw [List.forIn_cons, hstep k pre c (utf8L rem) out st (hm c (.head _)) he (by (first | lia | omega))]
    have := dec_loop l body hstop hstep rem (pre ++ PySem.Str.utf8Of c) ks (out ++ #[c]) st (fun x hx => hm x (.tail _ hx)) (by rw [he, List.append_assoc]) (by (first | lia | omega)) (by simp; (first | lia | omega))
    rw [List.length_append] at this
    simp only [pure_bind]
    rw [this]
    simp
theorem bind_of {α β : Type} {m m' : Sem α} {g : α → Sem β} {r : Sem β} (h : m = m') (h2 : m' >>= g = r) : m >>= g = r := h ▸ h2
theorem decUtf8 {id : String} (l : List Nat) (hb : ∀ x ∈ l, x < 0x110000 ∧ PySem.Str.isSurrogate x = false) (hz : l.length ≤ sizeLine) : runDecoder id utf8Decoder none true (utf8L l).toArray 0 [] = pure (l.toArray, (utf8L l).length) := by
  unfold runDecoder
  dsimp only
  rw [Std.Legacy.Range.forIn_eq_forIn_range']
  refine bind_of (dec_loop l _ ?hstop ?hstep l [] _ #[] _ (fun _ h => h) rfl (by simp [Std.Legacy.Range.size]; exact utf8L_length l) (by simpa using hz)) ?_
  case hstop =>
    intro x out st ho
    dsimp only
    rw [if_neg (by (first | lia | omega)), if_pos (by simp)]
  case hstep =>
    intro x pre c post out st hc he ho
    have hp : pre.length < (utf8L l).length := by rw [he, List.length_append, List.length_append]; have := utf8Of_pos c; (first | lia | omega)
    have hf : utf8Decoder.find true (utf8L l).toArray pre.length = .text [c] (pre.length + (PySem.Str.utf8Of c).length) := by
      show (match Bytes.utf8At (utf8L l).toArray pre.length with
        | (.char c, next) => Found.char c next
        | (.bad _ stop reason, _) => _) = _
      rw [he, utf8At_ok pre post c (hb c hc).1 (hb c hc).2]
      rfl
    dsimp only
    rw [if_neg (by (first | lia | omega)), if_neg (by simp; (first | lia | omega)), hf]
  simp
end Mine
end P_Enc
section P_Enc2
open PySem PySem.W PySem.Builtin PySem.Calls PyProof.Rows
set_option linter.unusedVariables false
set_option maxRecDepth 100000
namespace Mine
theorem encode_tree2 (x : PySem.Str) (t u : Tok) : «str.encode» ⟨[.str x t, .str (PySem.Str.ofString "utf-8") u], []⟩ = ((_codecs.encodeNarrow "str.encode" _codecs.utf8Codec none (.str x t) x >>= fun b => mkBytes b) >>= fun v => ret v) := by kernel_rfl
theorem encode_tree3 (x : PySem.Str) (t u : Tok) : «str.encode» ⟨[.str x t, .str (PySem.Str.ofString "ascii") u], []⟩ = ((_codecs.encodeNarrow "str.encode" _codecs.asciiCodec none (.str x t) x >>= fun b => mkBytes b) >>= fun v => ret v) := by kernel_rfl
theorem decode_tree2 (c : UInt8) (cs : List UInt8) (t u : Tok) : «bytes.decode» ⟨[.bytes (c :: cs).toArray t, .str (PySem.Str.ofString "utf-8") u], []⟩ = (mkStr (PySem.Str.ofString "utf-8") >>= fun _ => mkStr (PySem.Str.ofString "utf-8") >>= fun e => mkStr (PySem.Str.ofString "bytes.decode") >>= fun d =>
    call (.builtin "_codecs.decode.text") [.bytes (c :: cs).toArray t, e, .none, d] >>= fun v => ret v) := by kernel_rfl
theorem meets_enc {x : PySem.Str} {t u : Tok} (hb : ∀ y ∈ x.cps.toList, _codecs.utf8Codec.bad y = false) (hz : (encB _codecs.utf8Codec x).size ≤ sizeLine) :
    Meets («str.encode» ⟨[.str x t, .str (PySem.Str.ofString "utf-8") u], []⟩) (fun _ R s => ∀ t' k, R (.ok (.ret (.bytes (encB _codecs.utf8Codec x) t'))) { s with toks := k }) := by
  refine .of_wp fun prog w A R s h => ?_
  rw [encode_tree2, encNarrow hb hz]
  exact wpAny_bind (wpAny_bind (wpAny_pure (wpAny_mkBytes (wpAny_pure ⟨_, rfl, h _ _⟩) hz)))
theorem meets_encA {x : PySem.Str} {t u : Tok} (hb : ∀ y ∈ x.cps.toList, _codecs.asciiCodec.bad y = false) (hz : (encB _codecs.asciiCodec x).size ≤ sizeLine) :
    Meets («str.encode» ⟨[.str x t, .str (PySem.Str.ofString "ascii") u], []⟩) (fun _ R s => ∀ t' k, R (.ok (.ret (.bytes (encB _codecs.asciiCodec x) t'))) { s with toks := k }) := by
  refine .of_wp fun prog w A R s h => ?_
  rw [encode_tree3, encNarrow hb hz]
  exact wpAny_bind (wpAny_bind (wpAny_pure (wpAny_mkBytes (wpAny_pure ⟨_, rfl, h _ _⟩) hz)))
theorem meets_dec2 {c : UInt8} {cs : List UInt8} {t u : Tok} {x : PySem.Str} {n : Nat} (hd : ∀ id, _codecs.runDecoder id _codecs.utf8Decoder none true (c :: cs).toArray 0 [] = pure (x.cps, n)) :
    Meets («bytes.decode» ⟨[.bytes (c :: cs).toArray t, .str (PySem.Str.ofString "utf-8") u], []⟩) (fun _ R s => x.length ≤ sizeLine ∧ ∀ t' k, R (.ok (.ret (.str x t'))) { s with toks := k }) := by
  refine .of_wp fun prog w A R s hS => ?_
  obtain ⟨hsz, h⟩ := hS
  rw [decode_tree2]
  refine wpAny_bind (wpAny_mkStr ?_ (by decide))
  refine wpAny_bind (wpAny_mkStr ?_ (by decide))
  refine wpAny_bind (wpAny_mkStr ?_ (by decide))
  exact wpAny_bind (call_function_meets KBd.kind_text KBd.plain_text KBd.entry_text (KBd.args_text _ _ _ _) (KBd.meets_text hd) ⟨hsz, wpAny_pure ⟨_, rfl, h _ _⟩⟩)
section
variable {prog : Program} {w : World} {A : Around} {E : Value → Shared → Prop} {s : Shared} {t u : Tok} {x : PySem.Str}
theorem encU {Q : Value → Shared → Prop} (hb : ∀ y ∈ x.cps.toList, _codecs.utf8Codec.bad y = false) (hz : (encB _codecs.utf8Codec x).size ≤ sizeLine) (h : ∀ t' k, Q (.bytes (encB _codecs.utf8Codec x) t') { s with toks := k }) :
    wpAny (model prog w) A (call (.builtin "str.encode") [.str x t, .str (PySem.Str.ofString "utf-8") u]) Q E s :=
  call_meets F.slot_str_encode (typeIs_str _ _ _) F.entry_str_encode (F.args_str_encode_2 _ _) (meets_enc hb hz) h
theorem encA {Q : Value → Shared → Prop} (hb : ∀ y ∈ x.cps.toList, _codecs.asciiCodec.bad y = false) (hz : (encB _codecs.asciiCodec x).size ≤ sizeLine) (h : ∀ t' k, Q (.bytes (encB _codecs.asciiCodec x) t') { s with toks := k }) :
    wpAny (model prog w) A (call (.builtin "str.encode") [.str x t, .str (PySem.Str.ofString "ascii") u]) Q E s :=
  call_meets F.slot_str_encode (typeIs_str _ _ _) F.entry_str_encode (F.args_str_encode_2 _ _) (meets_encA hb hz) h
theorem encM {M : Model} {pl : Sem Bool} {Q : Value × List Value → Shared → Prop} (h : Q (.builtin "str.encode", [.str x t]) s) : wpAny M A (getMethod (.str x t) "encode" pl) Q E s := by
  with_reducible exact getMethod_builtin (typeIs_str _ _ _) F.plainAttrs_str F.slot_str_encode F.type_str_encode (fun _ e => nomatch e) h
theorem decU {l : List Nat} {Q : Value → Shared → Prop} (hb : ∀ y ∈ l, y < 0x110000 ∧ PySem.Str.isSurrogate y = false) (hne : l ≠ []) (hz : l.length ≤ sizeLine) (h : ∀ t' k, Q (.str ⟨l.toArray⟩ t') { s with toks := k }) :
    wpAny (model prog w) A (call (.builtin "bytes.decode") [.bytes (utf8L l).toArray t, .str (PySem.Str.ofString "utf-8") u]) Q E s := by
  have hd : ∀ id, _codecs.runDecoder id _codecs.utf8Decoder none true (utf8L l).toArray 0 [] = pure (l.toArray, (utf8L l).length) := fun id => decUtf8 l hb hz
  obtain ⟨c, cs, e⟩ : ∃ c cs, utf8L l = c :: cs := by
    cases hl : utf8L l with
    | nil => have := utf8L_length l; rw [hl] at this; exact absurd (List.eq_nil_of_length_eq_zero (Nat.le_zero.mp this)) hne
    | cons c cs => exact ⟨c, cs, rfl⟩
  rw [e] at hd ⊢
  exact call_meets FB.slot_bytes_decode (typeIs_bytes _ _ _) FB.entry_bytes_decode (by unfold argsOk; kernel_rfl) (meets_dec2 (x := ⟨l.toArray⟩) hd) ⟨by show l.toArray.size ≤ _; simpa using hz, h⟩
end
end Mine
end P_Enc2
section P_Wk9
open PySem PySem.W PySem.Calls PyProof.Rows
set_option linter.unusedVariables false
set_option maxRecDepth 100000
namespace Mine
theorem rules_Wk9_1 : True := by
  k_with_none
  k_with "eval Name" => ((with_reducible refine' ld ?gF ?gv ?_ ?gk ?gl ?gd); (case gF => assumption); (case gl => with_unfolding_all exact rfl); (case gv => with_unfolding_all exact rfl); (case gk => with_unfolding_all exact rfl); (case gd => with_unfolding_all exact rfl))
  k_with "eval Name" => ((first | (with_reducible refine' l_ascii_buffer ?gF ?gy ?gk ?gx ?_) | (with_reducible refine' l_buffer ?gF ?gy ?gk ?gx ?_) | (with_reducible refine' l_truth ?gF ?gy ?gk ?gx ?_) | (with_reducible refine' l_b64_value ?gF ?gy ?gk ?gx ?_) | (with_reducible refine' l_a2b_base64 ?gF ?gy ?gk ?gx ?_) | (with_reducible refine' l_b2a_base64 ?gF ?gy ?gk ?gx ?_) | (with_reducible refine' l_Authenticator ?gF ?gy ?gk ?gx ?_) | (with_reducible refine' l_twin_re_1 ?gF ?gy ?gk ?gx ?_) | (with_reducible refine' l_twin_re_2 ?gF ?gy ?gk ?gx ?_) | (with_reducible refine' l_quotedata ?gF ?gy ?gk ?gx ?_) | (with_reducible refine' l_b1_set ?gF ?gy ?gk ?gx ?_) | (with_reducible refine' l_in_table_b1 ?gF ?gy ?gk ?gx ?_) | (with_reducible refine' l_b3_exceptions ?gF ?gy ?gk ?gx ?_) | (with_reducible refine' l_map_table_b3 ?gF ?gy ?gk ?gx ?_) | (with_reducible refine' l_law_piece ?gF ?gy ?gk ?gx ?_) | (with_reducible refine' l_law_rows ?gF ?gy ?gk ?gx ?_) | (with_reducible refine' l_law_in_fours ?gF ?gy ?gk ?gx ?_) | (with_reducible refine' l_law_prepares ?gF ?gy ?gk ?gx ?_) | (with_reducible refine' l_law_sends ?gF ?gy ?gk ?gx ?_) | (with_reducible refine' l_B64 ?gF ?gy ?gk ?gx ?_) | (with_reducible refine' l_CRLF ?gF ?gy ?gk ?gx ?_) | (with_reducible refine' l_type ?gF ?gy ?gk ?gx ?_) | (with_reducible refine' l_str ?gF ?gy ?gk ?gx ?_) | (with_reducible refine' l_bytes ?gF ?gy ?gk ?gx ?_) | (with_reducible refine' l_bytearray ?gF ?gy ?gk ?gx ?_) | (with_reducible refine' l_bool ?gF ?gy ?gk ?gx ?_) | (with_reducible refine' l_int ?gF ?gy ?gk ?gx ?_) | (with_reducible refine' l_float ?gF ?gy ?gk ?gx ?_) | (with_reducible refine' l_complex ?gF ?gy ?gk ?gx ?_) | (with_reducible refine' l_list ?gF ?gy ?gk ?gx ?_) | (with_reducible refine' l_tuple ?gF ?gy ?gk ?gx ?_) | (with_reducible refine' l_dict ?gF ?gy ?gk ?gx ?_) | (with_reducible refine' l_set ?gF ?gy ?gk ?gx ?_) | (with_reducible refine' l_frozenset ?gF ?gy ?gk ?gx ?_) | (with_reducible refine' l_range ?gF ?gy ?gk ?gx ?_) | (with_reducible refine' l_ord ?gF ?gy ?gk ?gx ?_) | (with_reducible refine' l_chr ?gF ?gy ?gk ?gx ?_) | (with_reducible refine' l_len ?gF ?gy ?gk ?gx ?_) | (with_reducible refine' l_isinstance ?gF ?gy ?gk ?gx ?_)); (case gF => assumption); (case gy => assumption); (case gk => with_unfolding_all exact rfl); (case gx => with_unfolding_all exact rfl))
  k_with "call type:type" => ((with_reducible refine' call_type_of (Tx := "bytes") (typeIs_bytes _ _ _) ?hnb ?_); (case hnb => decide))
  k_with "callWith ref" => (refine callWith_y ⟨_, _, (by with_unfolding_all exact rfl), (by with_unfolding_all exact rfl)⟩ ?_)
  k_with "And" => ((with_reducible show YP _ _ ∧ wpAny _ _ (call (Value.ref _) _ _) _ _ _); refine' And.intro ?gA ?_; (case gA => exact YP.fr (by assumption) (by assumption)))
  k_with "unpackItems ref" => ((refine' unpackItemsN_ ?gF ?gN ?gT ?gh ?gn ?_; (case gF => assumption); (case gN => assumption); (case gT => exact News.isTup (by assumption) (by k_mem)); (case gh => exact Room.handled (by assumption)); (case gn => with_unfolding_all exact rfl)); intro _ _ _)
  k_with "getMethod ref" => (refine' listMethod_K ?gN ?gm PySem.F.slot_list_append PySem.F.type_list_append ?_; (case gN => assumption); (case gm => k_mem))
  k_with "call builtin:list.append" => ((refine' append_K ?gF ?gN ?gU ?_ ?gz; (case gF => assumption); (case gN => assumption); (case gU => k_upd); (case gz => first | assumption | (simp only [Array.size_push, List.size_toArray, List.length_append, List.length_cons, List.length_nil, sizeLine_eq] at *; (first | lia | omega)) | size_fits)); intro _ _ _)
  k_with "call ref" => ((first
  | (with_reducible refine' useI ?gF ?gN (c_b64_value ?gy ?gr) ?_)
  | (with_reducible refine' useB ?gF ?gN (c_ascii_buffer ?gy ?gr) ?_)
  | (with_reducible refine' useB ?gF ?gN (c_buffer ?gy ?gr) ?_)
  | (with_reducible refine' useT ?gF ?gN (c_truth ?gy ?gr) ?_)); (case gF => assumption); (case gN => assumption); (case gy => exact YP.fr (by assumption) (by assumption)); (case gr => exact Room.le (by assumption) (by decide)); intros)
  k_with "MINE" => repeat' ((fail_if_success (with_reducible show InvEndN _ _ _ _ _ _ _)); (fail_if_success (with_reducible show WNext _ _ _ _ _ _ _ _ _ _ _)); (fail_if_success (with_reducible show wpAny _ _ (exec (Stmt.While _ _ _ _) _) _ _ _)); (fail_if_success (with_reducible show wpAny _ _ (exec (Stmt.For _ _ _ _ _) _) _ _ _)); walk1)
  trivial
theorem pat1 {w : World} {h : Heap} (y : YP w h) : IsPat h 142 141 P1 := ⟨⟨_, _, _, _, y 142 _ (by rfl), rfl, rfl⟩, ⟨_, _, _, y 141 _ (by rfl), rfl, by decide +kernel⟩⟩
theorem pat2 {w : World} {h : Heap} (y : YP w h) : IsPat h 147 146 P2 := ⟨⟨_, _, _, _, y 147 _ (by rfl), rfl, rfl⟩, ⟨_, _, _, y 146 _ (by rfl), rfl, by decide +kernel⟩⟩
noncomputable def crlf : PySem.Str := PySem.Str.ofString "\r\n"
noncomputable def dd : PySem.Str := PySem.Str.ofString ".."
noncomputable def crlfL (x : PySem.Str) : List PySem.Str := cut x.cps crlf.cps (F2 x.cps) (x.cps.size + 1) 0
noncomputable def dotL (x : PySem.Str) : List PySem.Str := cut x.cps dd.cps (F1 x.cps) (x.cps.size + 1) 0
noncomputable def crlfed (x : PySem.Str) : PySem.Str := Txt.join ⟨#[]⟩ (crlfL x)
noncomputable def dotted (x : PySem.Str) : PySem.Str := Txt.join ⟨#[]⟩ (dotL x)
structure SubOk (x : PySem.Str) : Prop where
  z1 : x.cps.size ≤ 1048576
  j1 : JoinOk ⟨#[]⟩ (crlfL x) = true
  z2 : (crlfed x).cps.size ≤ 1048576
  j2 : JoinOk ⟨#[]⟩ (dotL (crlfed x)) = true
section
variable {w : World} {A : Around} {E : Value → Shared → Prop} {s : Shared}
theorem sub1U {h₀ : Heap} {L : Addr} {m : Str → Option Value} {news : List (Addr × Obj)} {Q : Value → Shared → Prop} {x : Str} {t tr : Tok} (F : Fr h₀ L s.heap m) (N : News h₀ L s.heap news) (y : YP w s.heap) (hz : x.cps.size ≤ 1048576) (hj : JoinOk ⟨#[]⟩ (dotL x) = true)
    (k : ∀ t' h' tk', Fr h₀ L h' m → News h₀ L h' news → Q (.str (dotted x) t') { s with heap := h', toks := tk' }) : wpAny (model pw w) A (call (.builtin "re.Pattern.sub") [.ref 142, .str (Str.ofString "..") tr, .str x t]) Q E s :=
  subCall (rep := dd) (by decide +kernel) (hF1 x.cps) (by (first | lia | omega)) hz (hFe1 x.cps) hj (pat1 y) fun t' h' k' hk => k t' h' k' (F.keeps hk) fun p hp => ⟨hk _ _ (N p hp).1, (N p hp).2⟩
theorem sub2U {h₀ : Heap} {L : Addr} {m : Str → Option Value} {news : List (Addr × Obj)} {Q : Value → Shared → Prop} {x : Str} {t tr : Tok} (F : Fr h₀ L s.heap m) (N : News h₀ L s.heap news) (y : YP w s.heap) (hz : x.cps.size ≤ 1048576) (hj : JoinOk ⟨#[]⟩ (crlfL x) = true)
    (k : ∀ t' h' tk', Fr h₀ L h' m → News h₀ L h' news → Q (.str (crlfed x) t') { s with heap := h', toks := tk' }) : wpAny (model pw w) A (call (.builtin "re.Pattern.sub") [.ref 147, .str (Str.ofString "\r\n") tr, .str x t]) Q E s :=
  subCall (rep := crlf) (by decide +kernel) (hF2 x.cps) (by (first | lia | omega)) hz (hFe2 x.cps) hj (pat2 y) fun t' h' k' hk => k t' h' k' (F.keeps hk) fun p hp => ⟨hk _ _ (N p hp).1, (N p hp).2⟩
theorem subM1 {M : Model} {pl : Sem Bool} {Q : Value × List Value → Shared → Prop} (y : YP w s.heap) (h : Q (.builtin "re.Pattern.sub", [.ref 142]) s) : wpAny M A (getMethod (.ref 142) (Str.ofString "sub") pl) Q E s :=
  subMeth (pat1 y) ⟨_, y 142 _ (by rfl), rfl⟩ h
theorem subM2 {M : Model} {pl : Sem Bool} {Q : Value × List Value → Shared → Prop} (y : YP w s.heap) (h : Q (.builtin "re.Pattern.sub", [.ref 147]) s) : wpAny M A (getMethod (.ref 147) (Str.ofString "sub") pl) Q E s :=
  subMeth (pat2 y) ⟨_, y 147 _ (by rfl), rfl⟩ h
theorem rules_Wk9_2 : True := by
  k_with "getMethod ref" => ((first | (with_reducible refine' subM1 ?gy ?_) | (with_reducible refine' subM2 ?gy ?_)); (case gy => exact YP.fr (by assumption) (by assumption)))
  k_with "call builtin:re.Pattern.sub" => ((first   | (with_reducible refine' sub1U ?gF ?gN ?gy ?gz ?gj ?_)   | (with_reducible refine' sub2U ?gF ?gN ?gy ?gz ?gj ?_)); (case gF => assumption); (case gN => assumption); (case gy => exact YP.fr (by assumption) (by assumption)); (case gz => assumption); (case gj => assumption); intro _ _ _ _ _)
  trivial
set_option maxHeartbeats 3000000 in
theorem c_quotedata {x : Str} {t : Tok} (y : YP w s.heap) (hr : Room A 1) (ho : SubOk x) :
    wpAny (model pw w) A (call (.ref 154) [.str x t]) (Ret s fun v _ => ∃ t', v = .str (dotted (crlfed x)) t') E s := by
  obtain ⟨z1, j1, z2, j2⟩ := ho
  refine enterF (k := 0) (args := ⟨[.str x t], []⟩) (binds := [(Str.ofString "data", .str x t)]) "quotedata" "quotedata" (stAt 17) .none _ hr y (by rfl) (by rfl) ⟨_, _, _, by rfl, by rfl, by rfl⟩ (BindsTo.of_eq (by rfl)) (locs (by rfl)) ⟨by rfl, by rfl, by rfl, by rfl⟩ (fun h₁ r F N => ?_)
  walk_at "MINE"
  exact done_at (P := fun v _ => ∃ t', v = .str (dotted (crlfed x)) t') (by assumption) ⟨_, rfl⟩
theorem useQ {x : Str} {t : Tok} {Q : Value → Shared → Prop} {h₀ : Heap} {L : Addr} {m : Str → Option Value} {news : List (Addr × Obj)} (F : Fr h₀ L s.heap m) (N : News h₀ L s.heap news) (y : YP w s.heap) (hr : Room A 1) (ho : SubOk x)
    (k : ∀ t' h' tk', Fr h₀ L h' m → News h₀ L h' news → Q (.str (dotted (crlfed x)) t') { s with heap := h', toks := tk' }) : wpAny (model pw w) A (call (.ref 154) [.str x t]) Q E s := useS F N (c_quotedata y hr ho) k
theorem decUl {l : List Nat} {t u : Tok} {Q : Value → Shared → Prop} {b : Array UInt8} (hb : b = (utf8L l).toArray) (h1 : ∀ y ∈ l, y < 0x110000 ∧ PySem.Str.isSurrogate y = false) (hne : l ≠ []) (hz : l.length ≤ sizeLine) (h : ∀ t' k, Q (.str ⟨l.toArray⟩ t') { s with toks := k }) :
    wpAny (model pw w) A (call (.builtin "bytes.decode") [.bytes b t, .str (PySem.Str.ofString "utf-8") u]) Q E s := by
  subst hb; exact decU h1 hne hz h
theorem rules_Wk9_3 : True := by
  k_with "getMethod bytes" => (with_reducible refine KBd.method ?_)
  k_with "call builtin:bytes.decode" => ((refine decUl (by assumption) (by assumption) (by assumption) (by assumption) ?_); intro _ _)
  k_with "call ref" => ((with_reducible refine' useQ ?gF ?gN ?gy ?gr ?go ?_); (case gF => assumption); (case gN => assumption); (case gy => exact YP.fr (by assumption) (by assumption)); (case gr => exact Room.le (by assumption) (by decide)); (case go => assumption); intros)
  trivial
set_option maxHeartbeats 3000000 in
theorem c_law_sends {b : Array UInt8} {l : List Nat} {t : Tok} (y : YP w s.heap) (hr : Room A 2) (hb : b = (utf8L l).toArray) (h1 : ∀ y ∈ l, y < 0x110000 ∧ PySem.Str.isSurrogate y = false) (hne : l ≠ []) (hz : l.length ≤ sizeLine) (ho : SubOk ⟨l.toArray⟩) :
    wpAny (model pw w) A (call (.ref 253) [.bytes b t]) (Ret s fun v _ => ∃ t', v = .str (dotted (crlfed ⟨l.toArray⟩)) t') E s := by
  refine enterF (k := 1) (args := ⟨[.bytes b t], []⟩) (binds := [(Str.ofString "octets", .bytes b t)]) "_law_sends" "_law_sends" (stAt 28) .none _ hr y (by rfl) (by rfl) ⟨_, _, _, by rfl, by rfl, by rfl⟩ (BindsTo.of_eq (by rfl)) (locs (by rfl)) ⟨by rfl, by rfl, by rfl, by rfl⟩ (fun h₁ r F N => ?_)
  walk_at "MINE"
  exact done_at (P := fun v _ => ∃ t', v = .str (dotted (crlfed ⟨l.toArray⟩)) t') (by assumption) ⟨_, rfl⟩
end
end Mine
end P_Wk9
section P_Wk2
open PySem PySem.W PySem.Calls PyProof.Rows
set_option linter.unusedVariables false
set_option maxRecDepth 100000
namespace Mine
theorem rules_Wk2_1 : True := by
  k_with_none
  k_with "eval Name" => ((with_reducible refine' ld ?gF ?gv ?_ ?gk ?gl ?gd); (case gF => assumption); (case gl => with_unfolding_all exact rfl); (case gv => with_unfolding_all exact rfl); (case gk => with_unfolding_all exact rfl); (case gd => with_unfolding_all exact rfl))
  k_with "eval Name" => ((first | (with_reducible refine' l_ascii_buffer ?gF ?gy ?gk ?gx ?_) | (with_reducible refine' l_buffer ?gF ?gy ?gk ?gx ?_) | (with_reducible refine' l_truth ?gF ?gy ?gk ?gx ?_) | (with_reducible refine' l_b64_value ?gF ?gy ?gk ?gx ?_) | (with_reducible refine' l_a2b_base64 ?gF ?gy ?gk ?gx ?_) | (with_reducible refine' l_b2a_base64 ?gF ?gy ?gk ?gx ?_) | (with_reducible refine' l_Authenticator ?gF ?gy ?gk ?gx ?_) | (with_reducible refine' l_twin_re_1 ?gF ?gy ?gk ?gx ?_) | (with_reducible refine' l_twin_re_2 ?gF ?gy ?gk ?gx ?_) | (with_reducible refine' l_quotedata ?gF ?gy ?gk ?gx ?_) | (with_reducible refine' l_b1_set ?gF ?gy ?gk ?gx ?_) | (with_reducible refine' l_in_table_b1 ?gF ?gy ?gk ?gx ?_) | (with_reducible refine' l_b3_exceptions ?gF ?gy ?gk ?gx ?_) | (with_reducible refine' l_map_table_b3 ?gF ?gy ?gk ?gx ?_) | (with_reducible refine' l_law_piece ?gF ?gy ?gk ?gx ?_) | (with_reducible refine' l_law_rows ?gF ?gy ?gk ?gx ?_) | (with_reducible refine' l_law_in_fours ?gF ?gy ?gk ?gx ?_) | (with_reducible refine' l_law_prepares ?gF ?gy ?gk ?gx ?_) | (with_reducible refine' l_law_sends ?gF ?gy ?gk ?gx ?_) | (with_reducible refine' l_B64 ?gF ?gy ?gk ?gx ?_) | (with_reducible refine' l_CRLF ?gF ?gy ?gk ?gx ?_) | (with_reducible refine' l_type ?gF ?gy ?gk ?gx ?_) | (with_reducible refine' l_str ?gF ?gy ?gk ?gx ?_) | (with_reducible refine' l_bytes ?gF ?gy ?gk ?gx ?_) | (with_reducible refine' l_bytearray ?gF ?gy ?gk ?gx ?_) | (with_reducible refine' l_bool ?gF ?gy ?gk ?gx ?_) | (with_reducible refine' l_int ?gF ?gy ?gk ?gx ?_) | (with_reducible refine' l_float ?gF ?gy ?gk ?gx ?_) | (with_reducible refine' l_complex ?gF ?gy ?gk ?gx ?_) | (with_reducible refine' l_list ?gF ?gy ?gk ?gx ?_) | (with_reducible refine' l_tuple ?gF ?gy ?gk ?gx ?_) | (with_reducible refine' l_dict ?gF ?gy ?gk ?gx ?_) | (with_reducible refine' l_set ?gF ?gy ?gk ?gx ?_) | (with_reducible refine' l_frozenset ?gF ?gy ?gk ?gx ?_) | (with_reducible refine' l_range ?gF ?gy ?gk ?gx ?_) | (with_reducible refine' l_ord ?gF ?gy ?gk ?gx ?_) | (with_reducible refine' l_chr ?gF ?gy ?gk ?gx ?_) | (with_reducible refine' l_len ?gF ?gy ?gk ?gx ?_) | (with_reducible refine' l_isinstance ?gF ?gy ?gk ?gx ?_)); (case gF => assumption); (case gy => assumption); (case gk => with_unfolding_all exact rfl); (case gx => with_unfolding_all exact rfl))
  k_with "call type:type" => ((with_reducible refine' call_type_of (Tx := "bytes") (typeIs_bytes _ _ _) ?hnb ?_); (case hnb => decide))
  k_with "callWith ref" => (refine callWith_y ⟨_, _, (by with_unfolding_all exact rfl), (by with_unfolding_all exact rfl)⟩ ?_)
  k_with "And" => ((with_reducible show YP _ _ ∧ wpAny _ _ (call (Value.ref _) _ _) _ _ _); refine' And.intro ?gA ?_; (case gA => exact YP.fr (by assumption) (by assumption)))
  k_with "unpackItems ref" => ((refine' unpackItemsN_ ?gF ?gN ?gT ?gh ?gn ?_; (case gF => assumption); (case gN => assumption); (case gT => exact News.isTup (by assumption) (by k_mem)); (case gh => exact Room.handled (by assumption)); (case gn => with_unfolding_all exact rfl)); intro _ _ _)
  trivial
noncomputable def b1list : List Int := [65024, 65025, 65026, 65027, 65028, 65029, 6150, 65030, 65031, 65032, 65033, 6155, 6156, 6157, 8203, 8204, 8205, 65034, 65035, 65036, 65037, 65038, 65039, 173, 847, 8288, 65279]
noncomputable def inB1 (k : Int) : Bool := decide (k ∈ b1list)
theorem hashInt_small {k : Int} (h : 0 ≤ k) (h2 : k < 2 ^ 31) : hashInt k = k := by
  unfold hashInt
  rw [rawHash_small h h2, if_neg]
  intro e
  have : k = -1 := by simpa using e
  (first | lia | omega)
noncomputable def setEs (o : Obj) : List (Int × Value) := match o.data with | .set es _ _ => es.toList | _ => []
noncomputable def goodE (e : Int × Value) : Bool := match e.2 with | .int k _ => k == e.1 && decide (0 ≤ e.1) && decide (e.1 < 2 ^ 31) | _ => false
theorem goodE_spec {e : Int × Value} (h : goodE e = true) : ∃ t, e.2 = Value.int e.1 t ∧ 0 ≤ e.1 ∧ e.1 < 2 ^ 31 := by
  unfold goodE at h
  split at h
  · next k t hk =>
    simp only [Bool.and_eq_true, decide_eq_true_eq, beq_iff_eq] at h
    exact ⟨t, by rw [hk, h.1.1], h.1.2, h.2⟩
  · cases h
theorem set_b1 (w : World) : (o162_4 w.params).SetObjOf (intKind pw w) inB1 27 := by
  have h1 : (setEs (o162_4 w.params)).all goodE = true := by kernel_rfl
  have h2 : (setEs (o162_4 w.params)).map (·.1) = b1list := by kernel_rfl
  refine ⟨⟨rfl, rfl, rfl⟩, _, _, _, rfl, fun e (he : e ∈ setEs (o162_4 w.params)) => ?_, fun k => ?_, rfl, rfl⟩
  · obtain ⟨t, a, b, c⟩ := goodE_spec (List.all_eq_true.mp h1 e he)
    exact ⟨⟨e.1, by rw [a]; exact isInt_self e.1 t, (hashInt_small b c).symm⟩, by rw [a]; rfl⟩
  · show decide (k ∈ b1list) = true ↔ ∃ e ∈ setEs (o162_4 w.params), _
    rw [decide_eq_true_eq, ← h2, List.mem_map]
    refine ⟨fun ⟨e, he, hk⟩ => ⟨e, he, ?_⟩, fun ⟨e, he, hk⟩ => ⟨e, he, ?_⟩⟩
    · obtain ⟨t, a, _⟩ := goodE_spec (List.all_eq_true.mp h1 e he)
      rw [← hk, a]; exact isInt_self e.1 t
    · obtain ⟨t, a, _⟩ := goodE_spec (List.all_eq_true.mp h1 e he)
      rw [a] at hk
      simpa [intKind, Value.isInt] using hk

noncomputable def b3 (k : Int) : Option Str := (rowz.find? fun y => y.1 == k).map (·.2)
theorem find_ents (k : Int) : ∀ (l : Rowz) (tk : Nat), (((ents tk l).find? fun e => Value.isInt k e.key) = none ∧ (l.find? fun y => y.1 == k) = none) ∨
    ∃ y t, (l.find? fun y => y.1 == k) = some y ∧ (((ents tk l).find? fun e => Value.isInt k e.key).map (·.val)) = some (.str y.2 t)
  | [], tk => .inl ⟨rfl, rfl⟩
  | y :: r, tk => by
    unfold ents
    by_cases h : (y.1 == k) = true
    · refine .inr ⟨y, tk + 1, ?_, ?_⟩
      · rw [List.find?_cons]; simp only [h]
      · rw [List.find?_cons]; simp [Value.isInt, h]
    · have h' : (y.1 == k) = false := by simpa using h
      have e1 : ∀ q : List DictEntry, ((⟨y.1, .int y.1 tk, .str y.2 (tk + 1)⟩ : DictEntry) :: q).find? (fun e => Value.isInt k e.key) = q.find? (fun e => Value.isInt k e.key) := fun q => by
        rw [List.find?_cons]; simp [Value.isInt, h']
      rw [e1, List.find?_cons]
      simp only [h']
      exact find_ents k r (tk + 3)
theorem find_entsE (k : Int) : ∀ (l : Rowz) (tk : Nat), (((entsE tk l).find? fun e => Value.isInt k e.key) = none ∧ (l.find? fun y => y.1 == k) = none) ∨
    ∃ y t, (l.find? fun y => y.1 == k) = some y ∧ (((entsE tk l).find? fun e => Value.isInt k e.key).map (·.val)) = some (.str y.2 t)
  | [], tk => .inl ⟨rfl, rfl⟩
  | y :: r, tk => by
    unfold entsE
    by_cases h : (y.1 == k) = true
    · refine .inr ⟨y, tk + 1, ?_, ?_⟩
      · rw [List.find?_cons]; simp only [h]
      · rw [List.find?_cons]; simp [Value.isInt, h]
    · have h' : (y.1 == k) = false := by simpa using h
      have e1 : ∀ q : List DictEntry, ((⟨y.1, .int y.1 tk, .str y.2 (tk + 1)⟩ : DictEntry) :: q).find? (fun e => Value.isInt k e.key) = q.find? (fun e => Value.isInt k e.key) := fun q => by
        rw [List.find?_cons]; simp [Value.isInt, h']
      rw [e1, List.find?_cons]
      simp only [h']
      exact find_entsE k r (tk + 2)
noncomputable def b3es : List DictEntry := ents 569 (rowz.take 646) ++ entsE 2507 (rowz.drop 646)
noncomputable def b3f (k : Int) : Option Value := findBy Value.isInt b3es.toArray k
theorem b3_val (k : Int) : match b3 k with | none => b3f k = none | some x => ∃ t, b3f k = some (.str x t) := by
  have hr : rowz = rowz.take 646 ++ rowz.drop 646 := (List.take_append_drop 646 rowz).symm
  have hb : b3 k = ((rowz.take 646 ++ rowz.drop 646).find? fun y => y.1 == k).map (·.2) := by rw [← hr]; rfl
  have hf : b3f k = (b3es.find? fun e => Value.isInt k e.key).map (·.val) := by simp [b3f, findBy]
  rw [hb, hf, List.find?_append]
  unfold b3es
  rw [List.find?_append]
  rcases find_ents k (rowz.take 646) 569 with ⟨h1, h2⟩ | ⟨z, t, h1, h2⟩
  · rw [h1, h2]
    rcases find_entsE k (rowz.drop 646) 2507 with ⟨h3, h4⟩ | ⟨z, t, h3, h4⟩
    · rw [h3, h4]; rfl
    · rw [h3]
      show ∃ t, _ = _
      exact ⟨t, h4⟩
  · rw [h1]
    show ∃ t, _ = _
    refine ⟨t, ?_⟩
    cases hq : (ents 569 (rowz.take 646)).find? fun e => Value.isInt k e.key with
    | none => rw [hq] at h2; cases h2
    | some e => rw [hq] at h2; exact h2
theorem rowzGood : Good rowz := (good_of rowz (-1) (by kernel_rfl!) (by (first | lia | omega))).1
theorem keys_ents : ∀ (l : Rowz) (tk : Nat), (∀ y ∈ l, 0 ≤ y.1 ∧ y.1 < 2 ^ 31) → ∀ e ∈ ents tk l, ∃ k, Value.isInt k e.key = true ∧ e.hash = hashInt k
  | [], _, _, e, he => nomatch he
  | y :: r, tk, h, e, he => by
    unfold ents at he
    rcases List.mem_cons.mp he with rfl | he
    · exact ⟨y.1, isInt_self _ _, (hashInt_small (h y (.head _)).1 (h y (.head _)).2).symm⟩
    · exact keys_ents r _ (fun z hz => h z (.tail _ hz)) e he
theorem keys_entsE : ∀ (l : Rowz) (tk : Nat), (∀ y ∈ l, 0 ≤ y.1 ∧ y.1 < 2 ^ 31) → ∀ e ∈ entsE tk l, ∃ k, Value.isInt k e.key = true ∧ e.hash = hashInt k
  | [], _, _, e, he => nomatch he
  | y :: r, tk, h, e, he => by
    unfold entsE at he
    rcases List.mem_cons.mp he with rfl | he
    · exact ⟨y.1, isInt_self _ _, (hashInt_small (h y (.head _)).1 (h y (.head _)).2).symm⟩
    · exact keys_entsE r _ (fun z hz => h z (.tail _ hz)) e he
theorem map_b3 {w : World} {h : Heap} (y : YP w h) : h.MapOf (intKind pw w) 173 b3f := by
  refine ⟨o173_6 w.params, b3es.toArray, 650, y 173 _ (by rfl), ⟨rfl, rfl, rfl⟩, rfl, ?_, fun k => rfl⟩
  intro e he
  have he' : e ∈ b3es := by simpa using he
  rcases List.mem_append.mp he' with he' | he'
  · exact keys_ents _ _ (fun z hz => rowzGood.2 z (List.mem_of_mem_take hz)) e he'
  · exact keys_entsE _ _ (fun z hz => rowzGood.2 z (List.mem_of_mem_drop hz)) e he'
section
variable {w : World} {A : Around} {E : Value → Shared → Prop} {s : Shared}
theorem rules_Wk2_2 : True := by
  k_with "compareOp In int ref" => (refine' in_argsetI ?gF ?gs ?go ?gb ?_; (case gF => assumption); (case gs => exact set_b1 _); (case go => exact getG (by assumption) (by with_unfolding_all exact rfl)); (case gb => decide))
  trivial
set_option maxHeartbeats 4000000 in
theorem c_in_table_b1 {c : Nat} {t : Tok} (y : YP w s.heap) (hr : Room A 1) :
    wpAny (model pw w) A (call (.ref 172) [.str ⟨#[c]⟩ t]) (Ret s fun v _ => v = .bool (inB1 c)) E s := by
  refine enterF (k := 0) (args := ⟨[.str ⟨#[c]⟩ t], []⟩) (binds := [(Str.ofString "code", .str ⟨#[c]⟩ t)]) "in_table_b1" "in_table_b1" (stAt 20) .none _ hr y (by rfl) (by rfl) ⟨_, _, _, by rfl, by rfl, by rfl⟩ (BindsTo.of_eq (by rfl)) (locs (by rfl)) ⟨by rfl, by rfl, by rfl, by rfl⟩ (fun h₁ r F N => ?_)
  walk
  all_goals exact done_at (P := fun v _ => v = .bool (inB1 c)) (by assumption) rfl
noncomputable def foldB3 (c : Nat) : Str := (b3 c).getD (Txt.lower ⟨#[c]⟩)
theorem b3_val' (k : Int) : (b3 k = none ∧ b3f k = none) ∨ ∃ x t, b3 k = some x ∧ b3f k = some (.str x t) := by
  have h := b3_val k
  cases e : b3 k with
  | none => rw [e] at h; exact .inl ⟨rfl, h⟩
  | some x => rw [e] at h; obtain ⟨t, ht⟩ := h; exact .inr ⟨x, t, rfl, ht⟩
theorem get_b3 {h₀ : Heap} {L : Addr} {m : Str → Option Value} {k : Int} {t : Tok} {Q : Value → Shared → Prop} (F : Fr h₀ L s.heap m) (y : YP w h₀) (h0 : b3 k = none → Q .none { s with toks := s.toks + 1 })
    (h1 : ∀ x t, b3 k = some x → Q (.str x t) { s with toks := s.toks + 1 }) : wpAny (model pw w) A (call (.builtin "dict.get") [.ref 173, .int k t]) Q E s := by
  have hD := map_b3 (y.fr F)
  refine call_meetsIn PySem.F.slot_dict_get (by obtain ⟨o, es, ep, ho, hx, _⟩ := hD; exact ⟨o, ho, hx.1⟩) PySem.F.entry_dict_get (PySem.F.args_dict_get_2 _ _) (meets_dict_get (intKind pw w) 173 (isInt_self k t) (by decide)) ⟨_, hD, ?_⟩
  rcases b3_val' k with ⟨e1, e2⟩ | ⟨x, u, e1, e2⟩
  · rw [e2]; exact h0 e1
  · rw [e2]; exact h1 x u e1
theorem meth_b3 {h₀ : Heap} {L : Addr} {m : Str → Option Value} {pl : Sem Bool} {Q : Value × List Value → Shared → Prop} (F : Fr h₀ L s.heap m) (y : YP w h₀) (h : Q (.builtin "dict.get", [.ref 173]) s) : wpAny (model pw w) A (getMethod (.ref 173) "get" pl) Q E s := by
  have hD := map_b3 (y.fr F)
  exact getMethod_builtin (by obtain ⟨o, es, ep, ho, hx, _⟩ := hD; exact ⟨o, ho, hx.1⟩) PySem.F.plainAttrs_dict PySem.F.slot_dict_get PySem.F.type_dict_get hD.noDict h
theorem rules_Wk2_3 : True := by
  k_with "getMethod ref" => (refine meth_b3 (by assumption) (by assumption) ?_)
  k_with "call builtin:dict.get" => (refine get_b3 (by assumption) (by assumption) (fun _ => ?_) (fun _ _ _ => ?_))
  trivial
set_option maxHeartbeats 4000000 in
theorem c_map_table_b3 {c : Nat} {t : Tok} (y : YP w s.heap) (hr : Room A 1) (hz : (Txt.lower ⟨#[c]⟩).length ≤ 16) :
    wpAny (model pw w) A (call (.ref 218) [.str ⟨#[c]⟩ t]) (Ret s fun v _ => ∃ t, v = .str (foldB3 c) t) E s := by
  refine enterF (k := 0) (args := ⟨[.str ⟨#[c]⟩ t], []⟩) (binds := [(Str.ofString "code", .str ⟨#[c]⟩ t)]) "map_table_b3" "map_table_b3" (stAt 22) .none _ hr y (by rfl) (by rfl) ⟨_, _, _, by rfl, by rfl, by rfl⟩ (BindsTo.of_eq (by rfl)) (locs (by rfl)) ⟨by rfl, by rfl, by rfl, by rfl⟩ (fun h₁ r F N => ?_)
  walk
  · refine SC.lower (KBy.tooLong_not (by (first | lia | omega))) ?_
    exact done_at (P := fun v _ => ∃ t, v = .str (foldB3 c) t) (by assumption) ⟨_, by unfold foldB3; simp only [*]; rfl⟩
  · exact done_at (P := fun v _ => ∃ t, v = .str (foldB3 c) t) (by assumption) ⟨_, by unfold foldB3; simp only [*]; rfl⟩
end
end Mine
end P_Wk2
section P_Wk5
open PySem PySem.W PySem.Calls PyProof.Rows
set_option linter.unusedVariables false
namespace Mine
section
variable {prog : Program} {w : World} {A : Around} {s : Shared} {env : Env} {h₀ : Heap} {Q : Flow → Shared → Prop} {m₀ : Str → Option Value}
theorem kst_frW {L : Addr} {h : Heap} {ps : List (Str × Value)} {stored : List Str} {m₀ m₁ : Str → Option Value} (h1 : ∀ p ∈ ps, m₁ p.1 = some p.2) (h2 : ∀ z, (∀ p ∈ ps, z ≠ p.1) → stored.contains z = false → m₁ z = m₀ z)
    (F : Fr h₀ L h m₁) : Fr h₀ L h (kstB (fun z => if stored.contains z then m₁ z else m₀ z) ps) := by
  have em : kstB (fun z => if stored.contains z then m₁ z else m₀ z) ps = m₁ := by
    funext y
    refine kstB_eq h1 fun hn => ?_
    show (if stored.contains y = true then m₁ y else m₀ y) = m₁ y
    cases h3 : stored.contains y with
    | true => simp
    | false => simp only [Bool.false_eq_true, if_false]; exact (h2 y hn h3).symm
  rw [em]
  exact F
/-- what a turn of a while loop leaves -/
noncomputable def WNext {σ : Type} (h₀ : Heap) (L : Addr) (Led : σ → List (Addr × Obj)) (ps : σ → List (Str × Value)) (stored : List Str) (m₀ : Str → Option Value) (P : σ → Prop) (μ : σ → Nat) (n : Nat) (s s₃ : Shared) : Prop :=
  ∃ c' h' tk' m', s₃ = { s with heap := h', toks := tk' } ∧ Fr h₀ L h' m' ∧ News h₀ L h' (Led c') ∧ (∀ p ∈ ps c', m' p.1 = some p.2) ∧ (∀ z, (∀ p ∈ ps c', z ≠ p.1) → stored.contains z = false → m' z = m₀ z) ∧ P c' ∧ μ c' < n
theorem WNext.intro {σ : Type} {L : Addr} {Led : σ → List (Addr × Obj)} {ps : σ → List (Str × Value)} {stored : List Str} {P : σ → Prop} {μ : σ → Nat} {n : Nat} (c : σ) {m' : Str → Option Value} {news' : List (Addr × Obj)} {h' : Heap} {tk : Nat}
    (F : Fr h₀ L h' m') (N : News h₀ L h' news') (hn : Led c = news') (hk : ∀ p ∈ ps c, m' p.1 = some p.2) (hr : ∀ z, (∀ p ∈ ps c, z ≠ p.1) → stored.contains z = false → m' z = m₀ z) (hp : P c) (hm : μ c < n) :
    WNext h₀ L Led ps stored m₀ P μ n s { s with heap := h', toks := tk } := ⟨c, h', tk, m', rfl, F, hn ▸ N, hk, hr, hp, hm⟩
noncomputable def WEnd {σ : Type} (h₀ : Heap) (L : Addr) (Led : σ → List (Addr × Obj)) (ps : σ → List (Str × Value)) (stored : List Str) (m₀ : Str → Option Value) (P : σ → Prop) (μ : σ → Nat) (n : Nat) (s : Shared) (Q : Flow → Shared → Prop) (f : Flow) (s₃ : Shared) : Prop :=
  match f with
  | .ret v => Q (.ret v) s₃
  | .brk => Q .next s₃
  | _ => WNext h₀ L Led ps stored m₀ P μ n s s₃
theorem while_kst {σ : Type} {test : PySem.Expr} {body : List Stmt} {pos : Pos} (Led : σ → List (Addr × Obj)) (ps : σ → List (Str × Value)) (stored : List Str) (P : σ → Prop) (μ : σ → Nat) (c₀ : σ)
    (F : Fr h₀ env.locals s.heap m₀) (N : News h₀ env.locals s.heap (Led c₀)) (hk : ∀ p ∈ ps c₀, m₀ p.1 = some p.2) (hp : P c₀)
    (turn : ∀ (c : σ) (u : Str → Option Value) h tk, P c → Fr h₀ env.locals h (kstB (fun z => if stored.contains z then u z else m₀ z) (ps c)) → News h₀ env.locals h (Led c) →
      wpAny (model prog w) A (isTrue test env (eval test env)) (fun b s₂ => if b then wpAny (model prog w) A (execs body env) (WEnd h₀ env.locals Led ps stored m₀ P μ (μ c) s Q) (fun _ _ => False) s₂ else Q .next s₂) (fun _ _ => False) { s with heap := h, toks := tk }) :
    wpAny (model prog w) A (exec (.While test body [] pos) env) Q (fun _ _ => False) s := by
  refine wpAny_While (codeAny_whileLoop (fun n s' => ∃ c h tk m, s' = { s with heap := h, toks := tk } ∧ Fr h₀ env.locals h m ∧ News h₀ env.locals h (Led c) ∧ (∀ p ∈ ps c, m p.1 = some p.2) ∧ (∀ z, (∀ p ∈ ps c, z ≠ p.1) → stored.contains z = false → m z = m₀ z) ∧ P c ∧ μ c = n) ?_ (μ c₀) ⟨c₀, s.heap, s.toks, m₀, rfl, F, N, hk, fun _ _ _ => rfl, hp, rfl⟩)
  rintro n s' ⟨c, h, tk, m, rfl, F₁, N₁, h1, h2, hP, rfl⟩
  refine wpAny_mono (turn c m h tk hP (kst_frW h1 h2 F₁) N₁) (fun b s₂ hb => ?_) fun _ _ e => e.elim
  cases b with
  | false =>
    simp only [Bool.false_eq_true, if_false] at hb ⊢
    exact wpAny_execs_nil hb
  | true =>
    simp only [if_true] at hb ⊢
    refine wpAny_mono hb (fun f s₃ hf => ?_) fun _ _ e => e.elim
    cases f with
    | ret v => exact hf
    | brk => exact hf
    | next => obtain ⟨c', h', tk', m', e, F', N', a1, a2, a3, a4⟩ := hf; exact ⟨μ c', a4, c', h', tk', m', e, F', N', a1, a2, a3, rfl⟩
    | cont => obtain ⟨c', h', tk', m', e, F', N', a1, a2, a3, a4⟩ := hf; exact ⟨μ c', a4, c', h', tk', m', e, F', N', a1, a2, a3, rfl⟩
theorem kst_end2 {σ : Type} {Led : σ → List (Addr × Obj)} {ps : σ → List (Str × Value)} {Facts : σ → Prop} {stored : List Str} {P : List Int → σ → Prop} {pre : List Int} {x : Str} (c : σ) {L : Addr} {m' : Str → Option Value} {own news' : List (Addr × Obj)} {adr : List Addr} {s₁ : Shared} {h' : Heap} {tk : Nat}
    (F : Fr h₀ L h' m') (N : News h₀ L h' news') (hn : Led c ++ own = news') (hk : ∀ p ∈ ps c, m' p.1 = some p.2) (ha : (Led c).map (·.1) = adr) (hf : Facts c) (hr : ∀ z, z ≠ x → (∀ p ∈ ps c, z ≠ p.1) → stored.contains z = false → m' z = m₀ z) (hp : P pre c) :
    InvEndN h₀ L (KstS Led ps Facts x stored m₀ P pre) own adr s₁ { s₁ with heap := h', toks := tk } :=
  kst_end c F N (fun p h => hn ▸ List.mem_append.mpr (.inl h)) (fun p h => hn ▸ List.mem_append.mpr (.inr h)) ha hf hk hr hp
end
end Mine
end P_Wk5
section P_Wk10
open PySem PySem.W PySem.Calls PyProof.Rows
set_option linter.unusedVariables false
set_option maxRecDepth 100000
namespace Mine
theorem rules_Wk10_1 : True := by
  k_with_none
  k_with "eval Name" => ((with_reducible refine' ld ?gF ?gv ?_ ?gk ?gl ?gd); (case gF => assumption); (case gl => with_unfolding_all exact rfl); (case gv => with_unfolding_all exact rfl); (case gk => with_unfolding_all exact rfl); (case gd => with_unfolding_all exact rfl))
  k_with "eval Name" => ((first | (with_reducible refine' l_ascii_buffer ?gF ?gy ?gk ?gx ?_) | (with_reducible refine' l_buffer ?gF ?gy ?gk ?gx ?_) | (with_reducible refine' l_truth ?gF ?gy ?gk ?gx ?_) | (with_reducible refine' l_b64_value ?gF ?gy ?gk ?gx ?_) | (with_reducible refine' l_a2b_base64 ?gF ?gy ?gk ?gx ?_) | (with_reducible refine' l_b2a_base64 ?gF ?gy ?gk ?gx ?_) | (with_reducible refine' l_Authenticator ?gF ?gy ?gk ?gx ?_) | (with_reducible refine' l_twin_re_1 ?gF ?gy ?gk ?gx ?_) | (with_reducible refine' l_twin_re_2 ?gF ?gy ?gk ?gx ?_) | (with_reducible refine' l_quotedata ?gF ?gy ?gk ?gx ?_) | (with_reducible refine' l_b1_set ?gF ?gy ?gk ?gx ?_) | (with_reducible refine' l_in_table_b1 ?gF ?gy ?gk ?gx ?_) | (with_reducible refine' l_b3_exceptions ?gF ?gy ?gk ?gx ?_) | (with_reducible refine' l_map_table_b3 ?gF ?gy ?gk ?gx ?_) | (with_reducible refine' l_law_piece ?gF ?gy ?gk ?gx ?_) | (with_reducible refine' l_law_rows ?gF ?gy ?gk ?gx ?_) | (with_reducible refine' l_law_in_fours ?gF ?gy ?gk ?gx ?_) | (with_reducible refine' l_law_prepares ?gF ?gy ?gk ?gx ?_) | (with_reducible refine' l_law_sends ?gF ?gy ?gk ?gx ?_) | (with_reducible refine' l_B64 ?gF ?gy ?gk ?gx ?_) | (with_reducible refine' l_CRLF ?gF ?gy ?gk ?gx ?_) | (with_reducible refine' l_type ?gF ?gy ?gk ?gx ?_) | (with_reducible refine' l_str ?gF ?gy ?gk ?gx ?_) | (with_reducible refine' l_bytes ?gF ?gy ?gk ?gx ?_) | (with_reducible refine' l_bytearray ?gF ?gy ?gk ?gx ?_) | (with_reducible refine' l_bool ?gF ?gy ?gk ?gx ?_) | (with_reducible refine' l_int ?gF ?gy ?gk ?gx ?_) | (with_reducible refine' l_float ?gF ?gy ?gk ?gx ?_) | (with_reducible refine' l_complex ?gF ?gy ?gk ?gx ?_) | (with_reducible refine' l_list ?gF ?gy ?gk ?gx ?_) | (with_reducible refine' l_tuple ?gF ?gy ?gk ?gx ?_) | (with_reducible refine' l_dict ?gF ?gy ?gk ?gx ?_) | (with_reducible refine' l_set ?gF ?gy ?gk ?gx ?_) | (with_reducible refine' l_frozenset ?gF ?gy ?gk ?gx ?_) | (with_reducible refine' l_range ?gF ?gy ?gk ?gx ?_) | (with_reducible refine' l_ord ?gF ?gy ?gk ?gx ?_) | (with_reducible refine' l_chr ?gF ?gy ?gk ?gx ?_) | (with_reducible refine' l_len ?gF ?gy ?gk ?gx ?_) | (with_reducible refine' l_isinstance ?gF ?gy ?gk ?gx ?_)); (case gF => assumption); (case gy => assumption); (case gk => with_unfolding_all exact rfl); (case gx => with_unfolding_all exact rfl))
  k_with "call type:type" => ((with_reducible refine' call_type_of (Tx := "bytes") (typeIs_bytes _ _ _) ?hnb ?_); (case hnb => decide))
  k_with "callWith ref" => (refine callWith_y ⟨_, _, (by with_unfolding_all exact rfl), (by with_unfolding_all exact rfl)⟩ ?_)
  k_with "And" => ((with_reducible show YP _ _ ∧ wpAny _ _ (call (Value.ref _) _ _) _ _ _); refine' And.intro ?gA ?_; (case gA => exact YP.fr (by assumption) (by assumption)))
  k_with "unpackItems ref" => ((refine' unpackItemsN_ ?gF ?gN ?gT ?gh ?gn ?_; (case gF => assumption); (case gN => assumption); (case gT => exact News.isTup (by assumption) (by k_mem)); (case gh => exact Room.handled (by assumption)); (case gn => with_unfolding_all exact rfl)); intro _ _ _)
  k_with "getMethod ref" => (refine' listMethod_K ?gN ?gm PySem.F.slot_list_append PySem.F.type_list_append ?_; (case gN => assumption); (case gm => k_mem))
  k_with "call builtin:list.append" => ((refine' append_K ?gF ?gN ?gU ?_ ?gz; (case gF => assumption); (case gN => assumption); (case gU => k_upd); (case gz => first | assumption | (simp only [Array.size_push, List.size_toArray, List.length_append, List.length_cons, List.length_nil, sizeLine_eq] at *; (first | lia | omega)) | size_fits)); intro _ _ _)
  k_with "call ref" => ((first
  | (with_reducible refine' useI ?gF ?gN (c_b64_value ?gy ?gr) ?_)
  | (with_reducible refine' useB ?gF ?gN (c_ascii_buffer ?gy ?gr) ?_)
  | (with_reducible refine' useB ?gF ?gN (c_buffer ?gy ?gr) ?_)
  | (with_reducible refine' useT ?gF ?gN (c_truth ?gy ?gr) ?_)); (case gF => assumption); (case gN => assumption); (case gy => exact YP.fr (by assumption) (by assumption)); (case gr => exact Room.le (by assumption) (by decide)); intros)
  k_with "MINE" => repeat' ((fail_if_success (with_reducible show InvEndN _ _ _ _ _ _ _)); (fail_if_success (with_reducible show WNext _ _ _ _ _ _ _ _ _ _ _)); (fail_if_success (with_reducible show wpAny _ _ (exec (Stmt.While _ _ _ _) _) _ _ _)); (fail_if_success (with_reducible show wpAny _ _ (exec (Stmt.For _ _ _ _ _) _) _ _ _)); walk1)
  trivial
theorem noPassA {M : Model} {A : Around} {env : Env} : PassesOwn M A env (fun _ _ => False) := fun _ _ h => h.elim
noncomputable def prepL (ks : List Int) : List Str := (ks.filter fun k => !inB1 k).map fun k => foldB3 k.toNat
theorem prepL_snoc (ks : List Int) (k : Int) : prepL (ks ++ [k]) = prepL ks ++ (if inB1 k = true then [] else [foldB3 k.toNat]) := by
  unfold prepL
  rw [List.filter_append, List.map_append]
  cases h : inB1 k <;> simp [List.filter_cons, h]
theorem joinU {prog : Program} {w : World} {A : Around} {E : Value → Shared → Prop} {s : Shared} {D : Addr} {vs : List Value} {ys : List Str} {x : Str} {t : Tok} {Q : Value → Shared → Prop} (hl : s.heap.IsList D vs.toArray) (hs : StrsAre vs ys) (hok : JoinOk x ys = true)
    (hq : ∀ t' k, Q (.str (Txt.join x ys) t') { s with toks := k }) : wpAny (model prog w) A (call (.builtin "str.join") [.str x t, .ref D]) Q E s := by
  obtain ⟨l, e1, e2⟩ := strsAre_values hs
  subst e1
  exact SC.join hl e2 hok hq
theorem rules_Wk10_2 : True := by
  k_with "getMethod bytes" => (with_reducible refine KBd.method ?_)
  k_with "call builtin:bytes.decode" => ((refine decUl (by assumption) (by assumption) (by assumption) (by assumption) ?_); intro _ _)
  k_with "call ref" => ((first | (with_reducible refine' useT ?gF ?gN (c_in_table_b1 ?gy ?gr) ?_) | (with_reducible refine' useS ?gF ?gN (c_map_table_b3 ?gy ?gr ?gh) ?_; (case gh => assumption))); (case gF => assumption); (case gN => assumption); (case gy => exact YP.fr (by assumption) (by assumption)); (case gr => exact Room.le (by assumption) (by decide)); intros)
  k_with "call builtin:str.join" => ((refine joinU (News.isList (by assumption) (.head _)) (by assumption) (by assumption) ?_); intro _ _)
  k_with "ENDA" => ((rename News _ _ _ _ => nE); (try simp only [List.push_toArray] at nE); (refine kst_end2 (c := ⟨_, _⟩) (by assumption) nE (by with_unfolding_all rfl) (by intro p hp; cases hp) (by rfl) trivial (by (intro z hz1 hz2 _; simp [kstB, hz1])) ⟨?_⟩))
  trivial
section
variable {w : World} {A : Around} {E : Value → Shared → Prop} {s : Shared}
structure SA where
  us : List Value
  n : Nat
structure PA (pre : List Int) (c : SA) : Prop where
  out : StrsAre c.us (prepL pre)
set_option maxHeartbeats 3000000 in
theorem c_law_prepares {b : Array UInt8} {l : List Nat} {t : Tok} (y : YP w s.heap) (hr : Room A 2) (hb : b = (utf8L l).toArray) (h1 : ∀ y ∈ l, y < 0x110000 ∧ PySem.Str.isSurrogate y = false) (hne : l ≠ []) (hz : l.length ≤ sizeLine) (hz2 : l.length ≤ 1048576)
    (hlow : ∀ k ∈ KStt.codes ⟨l.toArray⟩, (Txt.lower ⟨#[k.toNat]⟩).length ≤ 16) (hj : JoinOk "" (prepL (KStt.codes ⟨l.toArray⟩)) = true) :
    wpAny (model pw w) A (call (.ref 246) [.bytes b t]) (Ret s fun v _ => ∃ t', v = .str (Txt.join "" (prepL (KStt.codes ⟨l.toArray⟩))) t') E s := by
  refine enterF (k := 1) (args := ⟨[.bytes b t], []⟩) (binds := [(Str.ofString "octets", .bytes b t)]) "_law_prepares" "_law_prepares" (stAt 27) .none _ hr y (by rfl) (by rfl) ⟨_, _, _, by rfl, by rfl, by rfl⟩ (BindsTo.of_eq (by rfl)) (locs (by rfl)) ⟨by rfl, by rfl, by rfl, by rfl⟩ (fun h₁ r F N => ?_)
  walk_at "MINE"
  k_sweep
  rename Fr _ _ _ _ => F'
  rename News _ _ _ _ => N'
  refine For_invVF F' (by rfl) (by rfl) ?_ (by intro _; rfl) noPassA
  walk_at "MINE"
  k_sweep
  rename Fr _ _ _ _ => F2
  rename News _ _ _ _ => N2
  refine KStt.kst_text (σ := SA) (fun c => [(h₁.objs.size, listOf c.us.toArray c.n)]) (fun c => []) (fun _ => True) [] PA ⟨[], 0⟩ r.handled F2 N2 trivial ?kk ⟨.nil⟩ ?turn ?done
  case kk => intro p hp; cases hp
  case turn =>
    rintro ⟨us, cn⟩ pre post n tn u h tk own hks hoff _ ⟨ho⟩ F'' N''
    clear F2 N2
    dsimp only at ho F''
    replace hoff : OwnOff own [h₁.objs.size] := hoff
    replace N'' : News s.heap s.heap.objs.size h ((h₁.objs.size, listOf us.toArray cn) :: own) := N''
    have hln : (Txt.lower ⟨#[n]⟩).length ≤ 16 := by
      have := hlow (n : Int) (by rw [hks]; exact List.mem_append_right _ (.head _))
      rwa [Int.toNat_natCast] at this
    have e2 : pre.length ≤ l.length := by
      have := congrArg List.length hks
      rw [KStt.codes_length, List.length_append] at this
      have e : (⟨l.toArray⟩ : Str).length = l.length := by show l.toArray.size = _; simp
      (first | lia | omega)
    have hvl : us.length ≤ 1048576 := by
      have e1 := ho.length
      have e3 : (prepL pre).length ≤ pre.length := by unfold prepL; rw [List.length_map]; exact List.length_filter_le _ _
      (first | lia | omega)
    walk_at "MINE"
    all_goals (walk_at "ENDA")
    · rw [prepL_snoc, if_pos (by assumption), List.append_nil]
      exact ho
    · rw [prepL_snoc, if_neg (ne_true_of_eq_false (by assumption)), Int.toNat_natCast]
      exact ho.append' (.cons _ _ .nil)
  case done =>
    rintro ⟨us, cn⟩ u h tk _ ⟨ho⟩ F'' N''
    clear F2 N2
    dsimp only at ho
    replace N'' : News s.heap s.heap.objs.size h [(h₁.objs.size, listOf us.toArray cn)] := N''
    walk_at "MINE"
    exact done_at (P := fun v _ => ∃ t', v = .str (Txt.join "" (prepL (KStt.codes ⟨l.toArray⟩))) t') (by assumption) ⟨_, rfl⟩
end
end Mine
end P_Wk10
section P_Wk6
open PySem PySem.W PySem.Calls PyProof.Rows
set_option linter.unusedVariables false
set_option maxRecDepth 100000
namespace Mine
theorem rules_Wk6_1 : True := by
  k_with_none
  k_with "eval Name" => ((with_reducible refine' ld ?gF ?gv ?_ ?gk ?gl ?gd); (case gF => assumption); (case gl => with_unfolding_all exact rfl); (case gv => with_unfolding_all exact rfl); (case gk => with_unfolding_all exact rfl); (case gd => with_unfolding_all exact rfl))
  k_with "eval Name" => ((first | (with_reducible refine' l_ascii_buffer ?gF ?gy ?gk ?gx ?_) | (with_reducible refine' l_buffer ?gF ?gy ?gk ?gx ?_) | (with_reducible refine' l_truth ?gF ?gy ?gk ?gx ?_) | (with_reducible refine' l_b64_value ?gF ?gy ?gk ?gx ?_) | (with_reducible refine' l_a2b_base64 ?gF ?gy ?gk ?gx ?_) | (with_reducible refine' l_b2a_base64 ?gF ?gy ?gk ?gx ?_) | (with_reducible refine' l_Authenticator ?gF ?gy ?gk ?gx ?_) | (with_reducible refine' l_twin_re_1 ?gF ?gy ?gk ?gx ?_) | (with_reducible refine' l_twin_re_2 ?gF ?gy ?gk ?gx ?_) | (with_reducible refine' l_quotedata ?gF ?gy ?gk ?gx ?_) | (with_reducible refine' l_b1_set ?gF ?gy ?gk ?gx ?_) | (with_reducible refine' l_in_table_b1 ?gF ?gy ?gk ?gx ?_) | (with_reducible refine' l_b3_exceptions ?gF ?gy ?gk ?gx ?_) | (with_reducible refine' l_map_table_b3 ?gF ?gy ?gk ?gx ?_) | (with_reducible refine' l_law_piece ?gF ?gy ?gk ?gx ?_) | (with_reducible refine' l_law_rows ?gF ?gy ?gk ?gx ?_) | (with_reducible refine' l_law_in_fours ?gF ?gy ?gk ?gx ?_) | (with_reducible refine' l_law_prepares ?gF ?gy ?gk ?gx ?_) | (with_reducible refine' l_law_sends ?gF ?gy ?gk ?gx ?_) | (with_reducible refine' l_B64 ?gF ?gy ?gk ?gx ?_) | (with_reducible refine' l_CRLF ?gF ?gy ?gk ?gx ?_) | (with_reducible refine' l_type ?gF ?gy ?gk ?gx ?_) | (with_reducible refine' l_str ?gF ?gy ?gk ?gx ?_) | (with_reducible refine' l_bytes ?gF ?gy ?gk ?gx ?_) | (with_reducible refine' l_bytearray ?gF ?gy ?gk ?gx ?_) | (with_reducible refine' l_bool ?gF ?gy ?gk ?gx ?_) | (with_reducible refine' l_int ?gF ?gy ?gk ?gx ?_) | (with_reducible refine' l_float ?gF ?gy ?gk ?gx ?_) | (with_reducible refine' l_complex ?gF ?gy ?gk ?gx ?_) | (with_reducible refine' l_list ?gF ?gy ?gk ?gx ?_) | (with_reducible refine' l_tuple ?gF ?gy ?gk ?gx ?_) | (with_reducible refine' l_dict ?gF ?gy ?gk ?gx ?_) | (with_reducible refine' l_set ?gF ?gy ?gk ?gx ?_) | (with_reducible refine' l_frozenset ?gF ?gy ?gk ?gx ?_) | (with_reducible refine' l_range ?gF ?gy ?gk ?gx ?_) | (with_reducible refine' l_ord ?gF ?gy ?gk ?gx ?_) | (with_reducible refine' l_chr ?gF ?gy ?gk ?gx ?_) | (with_reducible refine' l_len ?gF ?gy ?gk ?gx ?_) | (with_reducible refine' l_isinstance ?gF ?gy ?gk ?gx ?_)); (case gF => assumption); (case gy => assumption); (case gk => with_unfolding_all exact rfl); (case gx => with_unfolding_all exact rfl))
  k_with "call type:type" => ((with_reducible refine' call_type_of (Tx := "bytes") (typeIs_bytes _ _ _) ?hnb ?_); (case hnb => decide))
  k_with "callWith ref" => (refine callWith_y ⟨_, _, (by with_unfolding_all exact rfl), (by with_unfolding_all exact rfl)⟩ ?_)
  k_with "And" => ((with_reducible show YP _ _ ∧ wpAny _ _ (call (Value.ref _) _ _) _ _ _); refine' And.intro ?gA ?_; (case gA => exact YP.fr (by assumption) (by assumption)))
  k_with "unpackItems ref" => ((refine' unpackItemsN_ ?gF ?gN ?gT ?gh ?gn ?_; (case gF => assumption); (case gN => assumption); (case gT => exact News.isTup (by assumption) (by k_mem)); (case gh => exact Room.handled (by assumption)); (case gn => with_unfolding_all exact rfl)); intro _ _ _)
  k_with "getMethod ref" => (refine' listMethod_K ?gN ?gm PySem.F.slot_list_append PySem.F.type_list_append ?_; (case gN => assumption); (case gm => k_mem))
  k_with "call builtin:list.append" => ((refine' append_K ?gF ?gN ?gU ?_ ?gz; (case gF => assumption); (case gN => assumption); (case gU => k_upd); (case gz => first | assumption | (simp only [Array.size_push, List.size_toArray, List.length_append, List.length_cons, List.length_nil, sizeLine_eq] at *; (first | lia | omega)) | size_fits)); intro _ _ _)
  k_with "call ref" => ((first
  | (with_reducible refine' useI ?gF ?gN (c_b64_value ?gy ?gr) ?_)
  | (with_reducible refine' useB ?gF ?gN (c_ascii_buffer ?gy ?gr) ?_)
  | (with_reducible refine' useB ?gF ?gN (c_buffer ?gy ?gr) ?_)
  | (with_reducible refine' useT ?gF ?gN (c_truth ?gy ?gr) ?_)); (case gF => assumption); (case gN => assumption); (case gy => exact YP.fr (by assumption) (by assumption)); (case gr => exact Room.le (by assumption) (by decide)); intros)
  k_with "MINE" => repeat' ((fail_if_success (with_reducible show InvEndN _ _ _ _ _ _ _)); (fail_if_success (with_reducible show WNext _ _ _ _ _ _ _ _ _ _ _)); (fail_if_success (with_reducible show wpAny _ _ (exec (Stmt.While _ _ _ _) _) _ _ _)); (fail_if_success (with_reducible show wpAny _ _ (exec (Stmt.For _ _ _ _ _) _) _ _ _)); walk1)
  trivial
section
variable {w : World} {A : Around} {E : Value → Shared → Prop} {s : Shared}
noncomputable def S1 (i : Int) : Str := ⟨#[i.toNat]⟩
noncomputable def pairsL : List (Str × Str) := [("ß", "ss"), ("ﬃ", "ffi"), ("℡", "tel"), ("㏇", "co."), ("ẞ", "ß"), ("ͺ", " ι")]
noncomputable def pointsL : List Int := [173, 847, 6150, 6155, 6156, 6157, 8203, 8204, 8205, 8288, 65279] ++ rangeInts 65024 1 16
noncomputable def pieceOf (c : Int) : Str × Str :=
  if c.fmod 12 = 4 then (S1 (65 + (c.fdiv 12).fmod 26), S1 (97 + (c.fdiv 12).fmod 26))
  else if c.fmod 12 = 5 then pairsL.getD ((c.fdiv 12).fmod 6).toNat ("", "")
  else if c.fmod 12 = 6 then (S1 (192 + (c.fdiv 12).fmod 23), S1 (224 + (c.fdiv 12).fmod 23))
  else if c.fmod 12 = 7 then (S1 (19968 + (c.fdiv 12).fmod 1000), S1 (19968 + (c.fdiv 12).fmod 1000))
  else if c.fmod 12 = 8 then (S1 (119808 + (c.fdiv 12).fmod 26), S1 (97 + (c.fdiv 12).fmod 26))
  else if c.fmod 12 = 9 then (S1 (pointsL.getD ((c.fdiv 12).fmod 27).toNat 0), "")
  else if c.fmod 12 = 10 then (S1 (128512 + (c.fdiv 12).fmod 64), S1 (128512 + (c.fdiv 12).fmod 64))
  else if c.fmod 12 = 1 then ("\n", "\n")
  else if c.fmod 12 = 2 then ("\r", "\r")
  else if c.fmod 12 = 3 then ("\r\n", "\r\n")
  else (".", ".")
theorem KItemAtList {prog : Program} {w : World} {A : Around} {E : Value → Shared → Prop} {s : Shared} {h₀ : Heap} {L a : Addr} {news : List (Addr × Obj)} {l : List Value} {n : Nat} {k : Int} {u : Tok} {x : Value} {value slice : Expr} {Q : Value → Shared → Prop} (N : News h₀ L s.heap ((a, { cls := .type "list", data := .seq l.toArray n }) :: news)) (hx : l[k.toNat]? = some x) (h : Q x s) (h0 : 0 ≤ k := by decide) (hfit : k < 2 ^ 63 := by decide)
    (hs : subscripted slice false (.ref a) (.int k u) = operate [.ref a, .int k u] (getItem (.ref a) (.int k u)) := by with_unfolding_all rfl) (hg : ∀ r, letTemporaryGo value (.ref a) r = pure () := by intro _; with_unfolding_all rfl) :
    wpAny (model prog w) A (subscriptTail value slice (.ref a) (.int k u)) Q E s := kim_list N (.head _) rfl rfl h0 hfit hx h hs hg
noncomputable def IsPair (h0 : Heap) (p : Str × Str) (v : Value) (h : Heap) : Prop := ∃ a t u, v = .ref a ∧ IsTup h a #[.str p.1 t, .str p.2 u] ∧ h0.get? a = none
theorem rules_Wk6_2 : True := by
  k_with "call builtin:chr" => refine chr_of_range (by (first | lia | omega)) (by (first | lia | omega)) ?_
  trivial
set_option maxHeartbeats 3000000 in
theorem c_law_piece {c : Int} {t : Tok} (y : YP w s.heap) (hr : Room A 1) (h0 : 0 ≤ c) :
    wpAny (model pw w) A (call (.ref 225) [.int c t]) (Ret s (IsPair s.heap (pieceOf c))) E s := by
  refine enterF (k := 0) (args := ⟨[.int c t], []⟩) (binds := [(Str.ofString "cell", .int c t)]) "_law_piece" "_law_piece" (stAt 24) .none _ hr y (by rfl) (by rfl) ⟨_, _, _, by rfl, by rfl, by rfl⟩ (BindsTo.of_eq (by rfl)) (locs (by rfl)) ⟨by rfl, by rfl, by rfl, by rfl⟩ (fun h₁ r F N => ?_)
  have l26 := fmod_lo (c.fdiv 12) (n := 26) (by decide)
  have u26 := fmod_hi (c.fdiv 12) (n := 26) (by decide)
  have l23 := fmod_lo (c.fdiv 12) (n := 23) (by decide)
  have u23 := fmod_hi (c.fdiv 12) (n := 23) (by decide)
  have l1k := fmod_lo (c.fdiv 12) (n := 1000) (by decide)
  have u1k := fmod_hi (c.fdiv 12) (n := 1000) (by decide)
  have l64 := fmod_lo (c.fdiv 12) (n := 64) (by decide)
  have u64 := fmod_hi (c.fdiv 12) (n := 64) (by decide)
  have l27 := fmod_lo (c.fdiv 12) (n := 27) (by decide)
  have u27 := fmod_hi (c.fdiv 12) (n := 27) (by decide)
  have l6 := fmod_lo (c.fdiv 12) (n := 6) (by decide)
  have u6 := fmod_hi (c.fdiv 12) (n := 6) (by decide)
  walk_at "MINE"
  all_goals try (
       refine done_at (P := IsPair s.heap (pieceOf c)) (by assumption) ?_
       rename News _ _ _ _ => nE
       have hT := News.isTup nE (.head _)
       unfold pieceOf
       repeat (first | rw [if_pos (by assumption)] | rw [if_neg (by assumption)])
       exact ⟨_, _, _, rfl, hT, (nE _ (.head _)).2.2⟩)
  · rename Fr _ _ _ _ => fE
    rename News _ _ _ _ => nE
    have h6 : (c.fdiv 12).fmod 6 = 0 ∨ (c.fdiv 12).fmod 6 = 1 ∨ (c.fdiv 12).fmod 6 = 2 ∨ (c.fdiv 12).fmod 6 = 3 ∨ (c.fdiv 12).fmod 6 = 4 ∨ (c.fdiv 12).fmod 6 = 5 := by (first | lia | omega)
    rcases h6 with h6 | h6 | h6 | h6 | h6 | h6
    all_goals (
      rw [h6]
      refine KItemAtList nE rfl ?_)
    all_goals (
      refine done_at (P := IsPair s.heap (pieceOf c)) fE ?_
      unfold pieceOf
      repeat (first | rw [if_pos (by assumption)] | rw [if_neg (by assumption)])
      rw [h6]
      exact ⟨_, _, _, rfl, by exact News.isTup nE (by k_mem), by exact News.fresh nE (by k_mem)⟩)
  · rename Fr _ _ _ _ => fE
    rename News _ _ _ _ => nE
    rename IsRange _ _ _ _ _ _ _ _ => hR
    refine list_rangeD r.handled fE nE hR (by decide) (by decide +kernel : _ = ((16 : Nat) : Int)) (by decide) fun h' tk ys F' N' hk hno hl hpl hcar => ?_
    have hys : IntsAre ys.toArray.toList (rangeInts 65024 1 16) := by
      have := CarriedAll.intsOf (f := fun x => x) hcar
      simpa using this
    have hpt : ∀ j : Nat, j < 27 → 0 ≤ pointsL.getD j 0 ∧ pointsL.getD j 0 ≤ 1114111 := by decide +kernel
    have hpt' := hpt ((c.fdiv 12).fmod 27).toNat (by (first | lia | omega))
    clear fE nE
    refine add_arrays_ints (ns := [173, 847, 6150, 6155, 6156, 6157, 8203, 8204, 8205, 8288, 65279]) F' N' (News.isList N' (.head _)) hl (by l_ints) hys (fun h'' F2 N2 hi2 => ?_) (by decide +kernel)
    clear F' N'
    walk_at "MINE"
    refine chr_of_range ?_ ?_ ?_
    · exact hpt'.1
    · exact hpt'.2
    walk_at "MINE"
    rename Fr _ _ _ _ => fF
    rename News _ _ _ _ => nF
    refine done_at (P := IsPair s.heap (pieceOf c)) fF ?_
    unfold pieceOf
    repeat (first | rw [if_pos (by assumption)] | rw [if_neg (by assumption)])
    exact ⟨_, _, _, rfl, by exact News.isTup nF (.head _), (nF _ (.head _)).2.2⟩
end
end Mine
end P_Wk6
section P_PL2
open PySem PySem.W PySem.Calls PyProof.Rows
set_option linter.unusedVariables false
set_option maxRecDepth 100000
namespace Mine
/-- joins as lists -/
theorem str_app (x y : Str) : (x ++ y : Str).cps.toList = x.cps.toList ++ y.cps.toList := by
  show (x.cps ++ y.cps).toList = _
  simp
theorem join_toList : ∀ ys : List Str, (Txt.join "" ys).cps.toList = ys.flatMap fun y => y.cps.toList := by
  intro ys
  show (Builtin.Str.glued "" ys).cps.toList = _
  rw [StrLaws.glued_eq_join]
  induction ys with
  | nil => rfl
  | cons x r ih =>
    cases r with
    | nil => show x.cps.toList = _; simp
    | cons y r =>
      show (x ++ "" ++ Str.join "" (y :: r) : Str).cps.toList = _
      rw [str_app, str_app, ih, List.flatMap_cons]
      show x.cps.toList ++ [] ++ _ = _
      rw [List.append_nil]; rfl
theorem str_ext {x y : Str} (h : x.cps.toList = y.cps.toList) : x = y := by
  cases x; cases y
  rw [Array.toList_inj] at h
  exact congrArg Str.mk h
/-- what the preparing makes of a sign -/
noncomputable def pf (c : Nat) : List Nat := if inB1 (c : Int) = true then [] else (foldB3 c).cps.toList
theorem prep_toList (x : Str) : (Txt.join "" (prepL (KStt.codes x))).cps.toList = x.cps.toList.flatMap pf := by
  rw [join_toList]
  unfold prepL KStt.codes
  generalize x.cps.toList = l
  induction l with
  | nil => rfl
  | cons c l ih =>
    rw [List.map_cons, List.filter_cons, List.flatMap_cons]
    unfold pf
    cases h : inB1 (c : Int) with
    | true => simp only [Bool.not_true, Bool.false_eq_true, if_false, if_true, List.nil_append]; exact ih
    | false =>
      simp only [Bool.not_false, if_true, Bool.false_eq_true, if_false, List.map_cons, List.flatMap_cons, Int.toNat_natCast]
      rw [ih]; rfl
theorem shifted_none {c lo hi : Nat} (h1 : lo ≤ c) (h2 : c ≤ hi) : ∀ l : List (Nat × Nat × Nat), (l.all fun e => decide (e.2.1 < lo) || decide (hi < e.1)) = true → Unicode.shifted l c = none
  | [], _ => rfl
  | (a, b, t) :: r, h => by
    rw [List.all_cons, Bool.and_eq_true] at h
    have h0 := h.1
    simp only [Bool.or_eq_true, decide_eq_true_eq] at h0
    show (if c < a then none else if c ≤ b then some (t + (c - a)) else Unicode.shifted r c) = none
    split
    · rfl
    · rw [if_neg (by omega)]
      exact shifted_none h1 h2 r h.2
theorem lower_one (c : Nat) (h : c ≠ 0x3A3) : (Txt.lower ⟨#[c]⟩).cps.toList = Unicode.lowerOf c := by
  have e : Unicode.lowerAt #[c] 0 = Unicode.lowerOf c := by
    show (if (c == 0x3A3 && Unicode.endsWord #[c] 0) = true then [0x3C2] else Unicode.lowerOf c) = _
    rw [beq_eq_false_iff_ne.mpr h]; rfl
  show ((Array.mapIdx (fun i _ => (Unicode.lowerAt #[c] i).toArray) #[c]).flatten).toList = _
  have e2 : Array.mapIdx (fun i (_ : Nat) => (Unicode.lowerAt #[c] i).toArray) #[c] = #[(Unicode.lowerAt #[c] 0).toArray] := by simp
  rw [e2, e]
  simp
theorem b3_none {c lo hi : Nat} (h1 : lo ≤ c) (h2 : c ≤ hi) : ∀ l : Rowz, (l.all fun e => decide (e.1 < lo) || decide ((hi : Int) < e.1)) = true → (l.find? fun y => y.1 == (c : Int)) = none
  | [], _ => rfl
  | e :: r, h => by
    rw [List.all_cons, Bool.and_eq_true] at h
    have h0 := h.1
    simp only [Bool.or_eq_true, decide_eq_true_eq] at h0
    rw [List.find?_cons]
    have : (e.1 == (c : Int)) = false := beq_eq_false_iff_ne.mpr (by omega)
    rw [this]
    exact b3_none h1 h2 r h.2
noncomputable def good1 (c : Nat) : Bool := decide (c < 0x110000) && !PySem.Str.isSurrogate c && decide ((Txt.lower ⟨#[c]⟩).length ≤ 16)
noncomputable def good2 (c : Nat) : Bool := decide (c < 0x110000) && !PySem.Str.isSurrogate c
structure PieceOk (p : Str × Str) : Prop where
  fold : p.1.cps.toList.flatMap pf = p.2.cps.toList
  g1 : ∀ c ∈ p.1.cps.toList, good1 c = true
  g2 : ∀ c ∈ p.2.cps.toList, good2 c = true
  z1 : p.1.cps.size ≤ 3
  z2 : p.2.cps.size ≤ 3
noncomputable def okB (p : Str × Str) : Bool := decide (p.1.cps.toList.flatMap pf = p.2.cps.toList) && p.1.cps.toList.all good1 && p.2.cps.toList.all good2 && decide (p.1.cps.size ≤ 3) && decide (p.2.cps.size ≤ 3)
theorem ok_of {p : Str × Str} (h : okB p = true) : PieceOk p := by
  simp only [okB, Bool.and_eq_true, decide_eq_true_eq, List.all_eq_true] at h
  exact ⟨h.1.1.1.1, h.1.1.1.2, h.1.1.2, h.1.2, h.2⟩
theorem same_ok {c lo hi : Nat} (h1 : lo ≤ c) (h2 : c ≤ hi) (hs : 0x3A3 < lo) (hx : hi < 0xD800 ∨ 0xDFFF < lo ∧ hi < 0x110000)
    (a : (rowz.all fun e => decide (e.1 < lo) || decide ((hi : Int) < e.1)) = true) (b : (UnicodeData.oneLower.all fun e => decide (e.2.1 < lo) || decide (hi < e.1)) = true)
    (d : (b1list.all fun e => decide (e < lo) || decide ((hi : Int) < e)) = true) : PieceOk (⟨#[c]⟩, ⟨#[c]⟩) := by
  have e1 : inB1 (c : Int) = false := by
    unfold inB1
    rw [decide_eq_false_iff_not]
    intro hm
    have := List.all_eq_true.mp d _ hm
    simp only [Bool.or_eq_true, decide_eq_true_eq] at this
    omega
  have e2 : b3 (c : Int) = none := by
    unfold b3
    rw [b3_none h1 h2 rowz a]; rfl
  have e3 : (Txt.lower ⟨#[c]⟩).cps.toList = [c] := by
    rw [lower_one c (by omega)]
    unfold Unicode.lowerOf Unicode.image
    have : UnicodeData.severalLower.lookup c = none := by
      show List.lookup c [(0x130, [0x69, 0x307])] = none
      rw [List.lookup_cons, beq_eq_false_iff_ne.mpr (show c ≠ 0x130 by omega)]; rfl
    rw [this]
    show [(Unicode.shifted UnicodeData.oneLower c).getD c] = _
    rw [shifted_none h1 h2 _ b]; rfl
  have e4 : good2 c = true := by
    simp only [good2, PySem.Str.isSurrogate, Bool.and_eq_true, decide_eq_true_eq, Bool.not_eq_true']
    refine ⟨by omega, ?_⟩
    rw [Bool.and_eq_false_iff, decide_eq_false_iff_not, decide_eq_false_iff_not]
    omega
  have e5 : good1 c = true := by
    have : (Txt.lower ⟨#[c]⟩).length ≤ 16 := by
      show (Txt.lower ⟨#[c]⟩).cps.size ≤ 16
      rw [← Array.length_toList, e3]; exact (by decide : 1 ≤ 16)
    unfold good1
    rw [decide_eq_true this, Bool.and_true]
    exact e4
  refine ⟨?_, ?_, ?_, ?_, ?_⟩
  · show [c].flatMap pf = [c]
    rw [List.flatMap_cons, List.flatMap_nil, List.append_nil]
    unfold pf foldB3
    rw [e1, e2]
    exact e3
  · intro x hx; rw [List.mem_singleton.mp hx]; exact e5
  · intro x hx; rw [List.mem_singleton.mp hx]; exact e4
  · exact (by decide : 1 ≤ 3)
  · exact (by decide : 1 ≤ 3)
theorem ok7 {c : Nat} (h1 : 19968 ≤ c) (h2 : c ≤ 20967) : PieceOk (⟨#[c]⟩, ⟨#[c]⟩) := same_ok h1 h2 (by decide) (.inl (by decide)) (by decide +kernel) (by decide +kernel) (by decide +kernel)
theorem ok10 {c : Nat} (h1 : 128512 ≤ c) (h2 : c ≤ 128575) : PieceOk (⟨#[c]⟩, ⟨#[c]⟩) := same_ok h1 h2 (by decide) (.inr (by decide)) (by decide +kernel) (by decide +kernel) (by decide +kernel)
theorem ok4 : ∀ i : Fin 26, okB (S1 (65 + (i.val : Int)), S1 (97 + (i.val : Int))) = true := by decide +kernel
theorem ok5 : ∀ i : Fin 6, okB (pairsL.getD i.val ("", "")) = true := by decide +kernel
theorem ok6 : ∀ i : Fin 23, okB (S1 (192 + (i.val : Int)), S1 (224 + (i.val : Int))) = true := by decide +kernel
theorem ok8 : ∀ i : Fin 26, okB (S1 (119808 + (i.val : Int)), S1 (97 + (i.val : Int))) = true := by decide +kernel
theorem ok9 : ∀ i : Fin 27, okB (S1 (pointsL.getD i.val 0), "") = true := by decide +kernel
theorem okP : okB ("\n", "\n") = true ∧ okB ("\r", "\r") = true ∧ okB ("\r\n", "\r\n") = true ∧ okB (".", ".") = true := by decide +kernel
theorem fm {a n : Int} (hn : 0 < n) : ∃ i : Nat, (a.fmod n) = (i : Int) ∧ (i : Int) < n := by
  have l := fmod_lo a hn
  have u := fmod_hi a hn
  exact ⟨(a.fmod n).toNat, by omega, by omega⟩
theorem piece_ok (c : Int) : PieceOk (pieceOf c) := by
  unfold pieceOf
  split
  · obtain ⟨i, e, h⟩ := fm (a := c.fdiv 12) (n := 26) (by decide)
    rw [e]; exact ok_of (ok4 ⟨i, by omega⟩)
  split
  · obtain ⟨i, e, h⟩ := fm (a := c.fdiv 12) (n := 6) (by decide)
    rw [e]; exact ok_of (ok5 ⟨i, by omega⟩)
  split
  · obtain ⟨i, e, h⟩ := fm (a := c.fdiv 12) (n := 23) (by decide)
    rw [e]; exact ok_of (ok6 ⟨i, by omega⟩)
  split
  · obtain ⟨i, e, h⟩ := fm (a := c.fdiv 12) (n := 1000) (by decide)
    rw [e]
    have e2 : S1 (19968 + (i : Int)) = ⟨#[19968 + i]⟩ := by unfold S1; congr 3
    rw [e2]; exact ok7 (by omega) (by omega)
  split
  · obtain ⟨i, e, h⟩ := fm (a := c.fdiv 12) (n := 26) (by decide)
    rw [e]; exact ok_of (ok8 ⟨i, by omega⟩)
  split
  · obtain ⟨i, e, h⟩ := fm (a := c.fdiv 12) (n := 27) (by decide)
    rw [e]; exact ok_of (ok9 ⟨i, by omega⟩)
  split
  · obtain ⟨i, e, h⟩ := fm (a := c.fdiv 12) (n := 64) (by decide)
    rw [e]
    have e2 : S1 (128512 + (i : Int)) = ⟨#[128512 + i]⟩ := by unfold S1; congr 3
    rw [e2]; exact ok10 (by omega) (by omega)
  split
  · exact ok_of okP.1
  split
  · exact ok_of okP.2.1
  split
  · exact ok_of okP.2.2.1
  · exact ok_of okP.2.2.2
end Mine
end P_PL2
section P_PL3
open PySem PySem.W PySem.Calls PyProof.Rows
set_option linter.unusedVariables false
set_option maxRecDepth 100000
namespace Mine
/-- line ends made one (the flag: the sign ahead was a return) -/
noncomputable def crl : Bool → List Nat → List Nat
  | _, [] => []
  | b, c :: r => if c = 13 then 13 :: 10 :: crl true r else if c = 10 then (if b = true then crl false r else 13 :: 10 :: crl false r) else c :: crl false r
/-- a dot more where a line begins with one (the flag: a line begins here) -/
noncomputable def dl : Bool → List Nat → List Nat
  | _, [] => []
  | b, c :: r => if b = true ∧ c = 46 then 46 :: 46 :: dl false r else c :: dl (c == 10) r
noncomputable def catL (l : List Str) : List Nat := l.flatMap fun y => y.cps.toList
theorem drop_at {T : Array Nat} {s : Nat} (h : s < T.size) : T.toList.drop s = T.getD s 0 :: T.toList.drop (s + 1) := by
  rw [List.drop_eq_getElem_cons (by simpa using h)]
  congr 1
  rw [Array.getD_eq_getD_getElem?, Array.getElem?_eq_getElem h]
  simp
theorem extr {T : Array Nat} {d a : Nat} : (T.extract d a).toList = (T.toList.drop d).take (a - d) := by simp
theorem nl_iff {c : Nat} : nl c = true ↔ c = 10 ∨ c = 13 := by simp [nl]
theorem crl_no {c : Nat} {r : List Nat} {b : Bool} (h : nl c = false) : crl b (c :: r) = c :: crl false r := by
  have h' : ¬ (c = 10 ∨ c = 13) := fun e => by rw [nl_iff.mpr e] at h; cases h
  show (if c = 13 then _ else if c = 10 then _ else _) = _
  rw [if_neg (fun e => h' (.inr e)), if_neg (fun e => h' (.inl e))]
theorem f2_none (T : Array Nat) : ∀ (f s : Nat), T.size + 1 ≤ f + s → find2 T f s = none → crl false (T.toList.drop s) = T.toList.drop s
  | 0, s, hf, _ => by rw [List.drop_of_length_le (by simp; (first | lia | omega))]; rfl
  | f + 1, s, hf, h => by
    unfold find2 at h
    split at h
    · rw [List.drop_of_length_le (by simp; (first | lia | omega))]; rfl
    · split at h
      · cases h
      · rename_i h1 h2
        rw [drop_at (by (first | lia | omega)), crl_no (by simpa using h2), f2_none T f (s + 1) (by (first | lia | omega)) h]
theorem f2_some (T : Array Nat) : ∀ (f s a : Nat), find2 T f s = some a → crl false (T.toList.drop s) = (T.toList.drop s).take (a - s) ++ crl false (T.toList.drop a)
  | 0, s, a, h => by simp [find2] at h
  | f + 1, s, a, h => by
    have hlt := find2_lt T _ _ _ h
    unfold find2 at h
    split at h
    · cases h
    · split at h
      · injection h with h; subst h; simp
      · rename_i h1 h2
        have hlt2 := find2_lt T _ _ _ h
        have e : a - s = (a - (s + 1)) + 1 := by (first | lia | omega)
        rw [drop_at (by (first | lia | omega)), crl_no (by simpa using h2), f2_some T f (s + 1) a h, e, List.take_succ_cons, List.cons_append]
theorem crl_true {l : List Nat} (h : ∀ c r, l = c :: r → c ≠ 10) : crl true l = crl false l := by
  cases l with
  | nil => rfl
  | cons c r =>
    have hc := h c r rfl
    show (if c = 13 then _ else if c = 10 then _ else _) = (if c = 13 then _ else if c = 10 then _ else _)
    split
    · rfl
    · simp [hc]
theorem crl_end {T : Array Nat} {a : Nat} (ha : a < T.size) (hn : nl (T.getD a 0) = true) : crl false (T.toList.drop a) = 13 :: 10 :: crl false (T.toList.drop (end2 T a)) := by
  rw [drop_at ha]
  show (if T.getD a 0 = 13 then _ else if T.getD a 0 = 10 then _ else _) = _
  by_cases h13 : T.getD a 0 = 13
  · rw [if_pos h13]
    by_cases h10 : a + 1 < T.size ∧ T.getD (a + 1) 0 = 10
    · have e : end2 T a = a + 2 := by simp [end2, h13, h10.1, h10.2]
      rw [e, drop_at h10.1]
      show 13 :: 10 :: (if T.getD (a + 1) 0 = 13 then _ else if T.getD (a + 1) 0 = 10 then _ else _) = _
      rw [h10.2, if_neg (by decide), if_pos rfl, if_pos rfl]
    · have e : end2 T a = a + 1 := by
        unfold end2
        rw [if_neg]
        intro hh
        simp only [Bool.and_eq_true, decide_eq_true_eq, beq_iff_eq] at hh
        exact h10 hh.2
      rw [e, crl_true]
      intro c r hc he
      by_cases hs : a + 1 < T.size
      · rw [drop_at hs] at hc
        injection hc with h1 h2
        exact h10 ⟨hs, h1.trans he⟩
      · rw [List.drop_of_length_le (by simp; (first | lia | omega))] at hc
        cases hc
  · have h10 : T.getD a 0 = 10 := by
      rcases nl_iff.mp hn with h | h
      · exact h
      · exact absurd h h13
    have e : end2 T a = a + 1 := by
      unfold end2
      rw [if_neg]
      intro hh
      simp only [Bool.and_eq_true, beq_iff_eq] at hh
      exact h13 hh.1
    rw [if_neg h13, if_pos h10, if_neg (by decide), e]
theorem cutF2 (T : Array Nat) : ∀ (f d : Nat), T.size + 1 ≤ f + d → d ≤ T.size → catL (cut T #[13, 10] (F2 T) f d) = crl false (T.toList.drop d)
  | 0, d, hf, hd => by (first | lia | omega)
  | f + 1, d, hf, hd => by
    unfold cut
    cases h : F2 T d with
    | none =>
      have h' : find2 T (T.size + 1 - d) d = none := by
        unfold F2 at h
        simpa using h
      rw [f2_none T _ d (by (first | lia | omega)) h']
      dsimp only
      by_cases hlt : d < T.size
      · rw [if_pos hlt]
        show (T.extract d T.size).toList ++ [] = _
        rw [extr, List.append_nil, List.take_of_length_le (by simp)]
      · rw [if_neg hlt, List.drop_of_length_le (by simp; (first | lia | omega))]; rfl
    | some p =>
      obtain ⟨a, e⟩ := p
      have hfe := hFe2 T d a e h
      have h' : find2 T (T.size + 1 - d) d = some a ∧ end2 T a = e := by
        unfold F2 at h
        cases hf : find2 T (T.size + 1 - d) d with
        | none => rw [hf] at h; cases h
        | some b => rw [hf] at h; simp at h; exact ⟨by rw [h.1], by rw [← h.1]; exact h.2⟩
      have hlt := find2_lt T _ _ _ h'.1
      rw [f2_some T _ d a h'.1, crl_end hlt.2.1 hlt.2.2, h'.2]
      dsimp only
      have ih := cutF2 T f e (by (first | lia | omega)) hfe.2.2
      unfold catL at ih ⊢
      rw [List.flatMap_append, List.flatMap_cons, ih]
      by_cases hda : d < a
      · rw [if_pos hda]
        show ((T.extract d a).toList ++ []) ++ _ = _
        rw [extr, List.append_nil]; rfl
      · rw [if_neg hda, show a - d = 0 by (first | lia | omega)]; rfl
noncomputable def bolAt (T : Array Nat) (s : Nat) : Bool := s == 0 || T.getD (s - 1) 0 == 10
theorem hit1_eq (T : Array Nat) (s : Nat) : hit1 T s = (bolAt T s && T.getD s 0 == 46) := rfl
theorem dl_no {T : Array Nat} {s : Nat} (hs : s < T.size) (h : hit1 T s = false) : dl (bolAt T s) (T.toList.drop s) = T.getD s 0 :: dl (bolAt T (s + 1)) (T.toList.drop (s + 1)) := by
  rw [drop_at hs]
  show (if bolAt T s = true ∧ T.getD s 0 = 46 then _ else _) = _
  rw [if_neg]
  · rfl
  · intro hh
    rw [hit1_eq, hh.1, hh.2] at h
    exact absurd h (by decide)
theorem f1_none (T : Array Nat) : ∀ (f s : Nat), T.size + 1 ≤ f + s → find1 T f s = none → dl (bolAt T s) (T.toList.drop s) = T.toList.drop s
  | 0, s, hf, _ => by rw [List.drop_of_length_le (by simp; (first | lia | omega))]; rfl
  | f + 1, s, hf, h => by
    unfold find1 at h
    split at h
    · rw [List.drop_of_length_le (by simp; (first | lia | omega))]; rfl
    · split at h
      · cases h
      · rename_i h1 h2
        rw [dl_no (by (first | lia | omega)) (by simpa using h2), f1_none T f (s + 1) (by (first | lia | omega)) h]
        exact (drop_at (by (first | lia | omega))).symm
theorem f1_some (T : Array Nat) : ∀ (f s a : Nat), find1 T f s = some a → dl (bolAt T s) (T.toList.drop s) = (T.toList.drop s).take (a - s) ++ dl (bolAt T a) (T.toList.drop a)
  | 0, s, a, h => by simp [find1] at h
  | f + 1, s, a, h => by
    have hlt := find1_lt T _ _ _ h
    unfold find1 at h
    split at h
    · cases h
    · split at h
      · injection h with h; subst h; simp
      · rename_i h1 h2
        have hlt2 := find1_lt T _ _ _ h
        have e : a - s = (a - (s + 1)) + 1 := by (first | lia | omega)
        rw [dl_no (by (first | lia | omega)) (by simpa using h2), f1_some T f (s + 1) a h, e, drop_at (s := s) (by (first | lia | omega)), List.take_succ_cons, List.cons_append]
theorem dl_end {T : Array Nat} {a : Nat} (ha : a < T.size) (hn : hit1 T a = true) : dl (bolAt T a) (T.toList.drop a) = 46 :: 46 :: dl (bolAt T (a + 1)) (T.toList.drop (a + 1)) := by
  rw [hit1_eq, Bool.and_eq_true, beq_iff_eq] at hn
  rw [drop_at ha]
  show (if bolAt T a = true ∧ T.getD a 0 = 46 then _ else _) = _
  rw [if_pos hn]
  have e : bolAt T (a + 1) = false := by
    unfold bolAt
    rw [show a + 1 - 1 = a by (first | lia | omega), hn.2]; simp
  rw [e]
theorem cutF1 (T : Array Nat) : ∀ (f d : Nat), T.size + 1 ≤ f + d → d ≤ T.size → catL (cut T #[46, 46] (F1 T) f d) = dl (bolAt T d) (T.toList.drop d)
  | 0, d, hf, hd => by (first | lia | omega)
  | f + 1, d, hf, hd => by
    unfold cut
    cases h : F1 T d with
    | none =>
      have h' : find1 T (T.size + 1 - d) d = none := by
        unfold F1 at h
        simpa using h
      rw [f1_none T _ d (by (first | lia | omega)) h']
      dsimp only
      by_cases hlt : d < T.size
      · rw [if_pos hlt]
        show (T.extract d T.size).toList ++ [] = _
        rw [extr, List.append_nil, List.take_of_length_le (by simp)]
      · rw [if_neg hlt, List.drop_of_length_le (by simp; (first | lia | omega))]; rfl
    | some p =>
      obtain ⟨a, e⟩ := p
      have hfe := hFe1 T d a e h
      have h' : find1 T (T.size + 1 - d) d = some a ∧ a + 1 = e := by
        unfold F1 at h
        cases hf : find1 T (T.size + 1 - d) d with
        | none => rw [hf] at h; cases h
        | some b => rw [hf] at h; simp at h; exact ⟨by rw [h.1], by rw [← h.1]; exact h.2⟩
      have hlt := find1_lt T _ _ _ h'.1
      rw [f1_some T _ d a h'.1, dl_end hlt.2.1 hlt.2.2, h'.2]
      dsimp only
      have ih := cutF1 T f e (by (first | lia | omega)) hfe.2.2
      unfold catL at ih ⊢
      rw [List.flatMap_append, List.flatMap_cons, ih]
      by_cases hda : d < a
      · rw [if_pos hda]
        show ((T.extract d a).toList ++ []) ++ _ = _
        rw [extr, List.append_nil]; rfl
      · rw [if_neg hda, show a - d = 0 by (first | lia | omega)]; rfl
theorem empty_str : (⟨#[]⟩ : Str) = "" := by decide
theorem crlf_cps : crlf.cps = #[13, 10] := by decide
theorem dd_cps : dd.cps = #[46, 46] := by decide
theorem crlfed_list (x : Str) : (crlfed x).cps.toList = crl false x.cps.toList := by
  unfold crlfed crlfL
  rw [empty_str, join_toList, crlf_cps]
  have := cutF2 x.cps (x.cps.size + 1) 0 (by (first | lia | omega)) (Nat.zero_le _)
  unfold catL at this
  rw [this, List.drop_zero]
theorem dotted_list (x : Str) : (dotted x).cps.toList = dl true x.cps.toList := by
  unfold dotted dotL
  rw [empty_str, join_toList, dd_cps]
  have := cutF1 x.cps (x.cps.size + 1) 0 (by (first | lia | omega)) (Nat.zero_le _)
  unfold catL at this
  rw [this, List.drop_zero]
  rfl
theorem cat_len (l : List Str) : (l.map (·.length)).sum = (catL l).length := by
  induction l with
  | nil => rfl
  | cons x l ih =>
    rw [List.map_cons, List.sum_cons, ih]
    show _ = (x.cps.toList ++ catL l).length
    rw [List.length_append]
    rfl
theorem crlfL_len (x : Str) : ((crlfL x).map (·.length)).sum = (crl false x.cps.toList).length := by
  rw [cat_len]
  unfold crlfL
  rw [crlf_cps, cutF2 x.cps (x.cps.size + 1) 0 (by (first | lia | omega)) (Nat.zero_le _), List.drop_zero]
theorem dotL_len (x : Str) : ((dotL x).map (·.length)).sum = (dl true x.cps.toList).length := by
  rw [cat_len]
  unfold dotL
  rw [dd_cps, cutF1 x.cps (x.cps.size + 1) 0 (by (first | lia | omega)) (Nat.zero_le _), List.drop_zero]
  rfl
end Mine
end P_PL3
section P_Wk7
open PySem PySem.W PySem.Calls PyProof.Rows
set_option linter.unusedVariables false
set_option maxRecDepth 100000
namespace Mine
theorem rules_Wk7_1 : True := by
  k_with_none
  k_with "eval Name" => ((with_reducible refine' ld ?gF ?gv ?_ ?gk ?gl ?gd); (case gF => assumption); (case gl => with_unfolding_all exact rfl); (case gv => with_unfolding_all exact rfl); (case gk => with_unfolding_all exact rfl); (case gd => with_unfolding_all exact rfl))
  k_with "eval Name" => ((first | (with_reducible refine' l_ascii_buffer ?gF ?gy ?gk ?gx ?_) | (with_reducible refine' l_buffer ?gF ?gy ?gk ?gx ?_) | (with_reducible refine' l_truth ?gF ?gy ?gk ?gx ?_) | (with_reducible refine' l_b64_value ?gF ?gy ?gk ?gx ?_) | (with_reducible refine' l_a2b_base64 ?gF ?gy ?gk ?gx ?_) | (with_reducible refine' l_b2a_base64 ?gF ?gy ?gk ?gx ?_) | (with_reducible refine' l_Authenticator ?gF ?gy ?gk ?gx ?_) | (with_reducible refine' l_twin_re_1 ?gF ?gy ?gk ?gx ?_) | (with_reducible refine' l_twin_re_2 ?gF ?gy ?gk ?gx ?_) | (with_reducible refine' l_quotedata ?gF ?gy ?gk ?gx ?_) | (with_reducible refine' l_b1_set ?gF ?gy ?gk ?gx ?_) | (with_reducible refine' l_in_table_b1 ?gF ?gy ?gk ?gx ?_) | (with_reducible refine' l_b3_exceptions ?gF ?gy ?gk ?gx ?_) | (with_reducible refine' l_map_table_b3 ?gF ?gy ?gk ?gx ?_) | (with_reducible refine' l_law_piece ?gF ?gy ?gk ?gx ?_) | (with_reducible refine' l_law_rows ?gF ?gy ?gk ?gx ?_) | (with_reducible refine' l_law_in_fours ?gF ?gy ?gk ?gx ?_) | (with_reducible refine' l_law_prepares ?gF ?gy ?gk ?gx ?_) | (with_reducible refine' l_law_sends ?gF ?gy ?gk ?gx ?_) | (with_reducible refine' l_B64 ?gF ?gy ?gk ?gx ?_) | (with_reducible refine' l_CRLF ?gF ?gy ?gk ?gx ?_) | (with_reducible refine' l_type ?gF ?gy ?gk ?gx ?_) | (with_reducible refine' l_str ?gF ?gy ?gk ?gx ?_) | (with_reducible refine' l_bytes ?gF ?gy ?gk ?gx ?_) | (with_reducible refine' l_bytearray ?gF ?gy ?gk ?gx ?_) | (with_reducible refine' l_bool ?gF ?gy ?gk ?gx ?_) | (with_reducible refine' l_int ?gF ?gy ?gk ?gx ?_) | (with_reducible refine' l_float ?gF ?gy ?gk ?gx ?_) | (with_reducible refine' l_complex ?gF ?gy ?gk ?gx ?_) | (with_reducible refine' l_list ?gF ?gy ?gk ?gx ?_) | (with_reducible refine' l_tuple ?gF ?gy ?gk ?gx ?_) | (with_reducible refine' l_dict ?gF ?gy ?gk ?gx ?_) | (with_reducible refine' l_set ?gF ?gy ?gk ?gx ?_) | (with_reducible refine' l_frozenset ?gF ?gy ?gk ?gx ?_) | (with_reducible refine' l_range ?gF ?gy ?gk ?gx ?_) | (with_reducible refine' l_ord ?gF ?gy ?gk ?gx ?_) | (with_reducible refine' l_chr ?gF ?gy ?gk ?gx ?_) | (with_reducible refine' l_len ?gF ?gy ?gk ?gx ?_) | (with_reducible refine' l_isinstance ?gF ?gy ?gk ?gx ?_)); (case gF => assumption); (case gy => assumption); (case gk => with_unfolding_all exact rfl); (case gx => with_unfolding_all exact rfl))
  k_with "call type:type" => ((with_reducible refine' call_type_of (Tx := "bytes") (typeIs_bytes _ _ _) ?hnb ?_); (case hnb => decide))
  k_with "callWith ref" => (refine callWith_y ⟨_, _, (by with_unfolding_all exact rfl), (by with_unfolding_all exact rfl)⟩ ?_)
  k_with "And" => ((with_reducible show YP _ _ ∧ wpAny _ _ (call (Value.ref _) _ _) _ _ _); refine' And.intro ?gA ?_; (case gA => exact YP.fr (by assumption) (by assumption)))
  k_with "unpackItems ref" => ((refine' unpackItemsN_ ?gF ?gN ?gT ?gh ?gn ?_; (case gF => assumption); (case gN => assumption); (case gT => exact News.isTup (by assumption) (by k_mem)); (case gh => exact Room.handled (by assumption)); (case gn => with_unfolding_all exact rfl)); intro _ _ _)
  k_with "getMethod ref" => (refine' listMethod_K ?gN ?gm PySem.F.slot_list_append PySem.F.type_list_append ?_; (case gN => assumption); (case gm => k_mem))
  k_with "call builtin:list.append" => ((refine' append_K ?gF ?gN ?gU ?_ ?gz; (case gF => assumption); (case gN => assumption); (case gU => k_upd); (case gz => first | assumption | (simp only [Array.size_push, List.size_toArray, List.length_append, List.length_cons, List.length_nil, sizeLine_eq] at *; (first | lia | omega)) | size_fits)); intro _ _ _)
  k_with "call ref" => ((first
  | (with_reducible refine' useI ?gF ?gN (c_b64_value ?gy ?gr) ?_)
  | (with_reducible refine' useB ?gF ?gN (c_ascii_buffer ?gy ?gr) ?_)
  | (with_reducible refine' useB ?gF ?gN (c_buffer ?gy ?gr) ?_)
  | (with_reducible refine' useT ?gF ?gN (c_truth ?gy ?gr) ?_)); (case gF => assumption); (case gN => assumption); (case gy => exact YP.fr (by assumption) (by assumption)); (case gr => exact Room.le (by assumption) (by decide)); intros)
  k_with "MINE" => repeat' ((fail_if_success (with_reducible show InvEndN _ _ _ _ _ _ _)); (fail_if_success (with_reducible show WNext _ _ _ _ _ _ _ _ _ _ _)); (fail_if_success (with_reducible show wpAny _ _ (exec (Stmt.While _ _ _ _) _) _ _ _)); (fail_if_success (with_reducible show wpAny _ _ (exec (Stmt.For _ _ _ _ _) _) _ _ _)); walk1)
  k_with "END6b" => ((rename News _ _ _ _ => nE); (try simp only [List.push_toArray] at nE); (refine kst_end2 (c := ⟨_, _, _, _, _, _⟩) (by assumption) nE (by with_unfolding_all rfl) (by kst_all) (by rfl) trivial (by (intro z hz1 hz2 _; have e0 := hz2 _ (List.Mem.head _); dsimp only at e0; simp [kstB, hz1, e0])) ?_))
  trivial
theorem noPass7 {M : Model} {A : Around} {env : Env} : PassesOwn M A env (fun _ _ => False) := fun _ _ h => h.elim
theorem setLast {prog : Program} {w : World} {A : Around} {E : Value → Shared → Prop} {s : Shared} {h₀ : Heap} {L D : Addr} {m : Str → Option Value} {us : List Value} {z v : Value} {n : Nat} {t : Tok} {rest : List (Addr × Obj)} {Q : Unit → Shared → Prop} (F : Fr h₀ L s.heap m) (N : News h₀ L s.heap ((D, listOf (us ++ [z]).toArray n) :: rest)) (hap : ∀ p ∈ rest, p.1 ≠ D)
    (h : ∀ h', Fr h₀ L h' m → News h₀ L h' ((D, listOf (us ++ [v]).toArray n) :: rest) → Q () { s with heap := h' }) : wpAny (model prog w) A (setItem (.ref D) (.int (-1) t) v) Q E s := by
  have z' := N _ (.head _)
  have e1 : ((-1 : Int) + ((us ++ [z]).toArray.size : Int)).toNat = us.length := by simp only [List.size_toArray, List.length_append, List.length_cons, List.length_nil]; (first | lia | omega)
  have e2 : (us ++ [z]).toArray.setIfInBounds us.length v = (us ++ [v]).toArray := by
    apply Array.toList_inj.mp
    simp
  refine ki_setBack z'.1 (by decide) (by simp only [List.size_toArray, List.length_append, List.length_cons, List.length_nil]; (first | lia | omega)) (by decide) ?_
  rw [e1]
  exact h _ (F.change (Heap.SameBut.update ..) z'.2.1 z'.2.2) (ki_turn (pre := []) _ N (fun _ hp => nomatch hp) hap e2 (by simp))
theorem getLast7 {prog : Program} {w : World} {A : Around} {E : Value → Shared → Prop} {s : Shared} {h₀ : Heap} {L D : Addr} {us : List Value} {z : Value} {n : Nat} {t : Tok} {rest : List (Addr × Obj)} {Q : Value → Shared → Prop} (N : News h₀ L s.heap ((D, listOf (us ++ [z]).toArray n) :: rest))
    (h : Q z s) : wpAny (model prog w) A (getItem (.ref D) (.int (-1) t)) Q E s := by
  have z' := N _ (.head _)
  refine wpAny_getItem_list_neg ⟨_, z'.1, rfl, _, rfl⟩ (by decide) (by simp only [List.size_toArray, List.length_append, List.length_cons, List.length_nil]; (first | lia | omega)) (by decide) (x := z) ?_ h
  have e1 : ((-1 : Int) + ((us ++ [z]).toArray.size : Int)).toNat = us.length := by simp only [List.size_toArray, List.length_append, List.length_cons, List.length_nil]; (first | lia | omega)
  rw [e1]; simp
theorem rules_Wk7_2 : True := by
  k_with "getItem ref int" => (refine getLast7 (by assumption) ?_)
  k_with "inplaceOp Add str str" => ((refine SBL.iadd (hsz := ?hsz) ?_); (case hsz => assumption); intro _ _)
  k_with "setItem ref int" => ((refine setLast (by assumption) (by assumption) (OwnOff.ne (by assumption) (.head _)) ?_); intro _ _ _)
  trivial
section
variable {w : World} {A : Around} {E : Value → Shared → Prop} {s : Shared}
structure S7 where
  us : List Value
  cur : Str
  t2 : Tok
  n : Nat
  last : Str
  t1 : Tok
noncomputable abbrev RowQ := List Str × Str × Str
noncomputable def rowStep (p : RowQ) (c : Int) : RowQ :=
  if ((⟨#[c.toNat]⟩ : Str) == Str.ofString "\r") = true then (p.1 ++ [p.2.1], "", ⟨#[c.toNat]⟩)
  else if ((⟨#[c.toNat]⟩ : Str) == Str.ofString "\n") = true then
    if (p.2.2 != Str.ofString "\r") = true then (p.1 ++ [p.2.1], "", ⟨#[c.toNat]⟩) else (p.1, p.2.1, ⟨#[c.toNat]⟩)
  else (p.1, p.2.1 ++ ⟨#[c.toNat]⟩, ⟨#[c.toNat]⟩)
noncomputable def rowRun (ks : List Int) : RowQ := ks.foldl rowStep ([], "", "")
theorem rowRun_snoc (ks : List Int) (k : Int) : rowRun (ks ++ [k]) = rowStep (rowRun ks) k := by simp [rowRun]
noncomputable def rowsOf (x : Str) : List Str := (rowRun (KStt.codes x)).1 ++ [(rowRun (KStt.codes x)).2.1]
inductive P7i (pre : List Int) (c : S7) : Prop
  | mk (rows : List Str) : StrsAre c.us rows →
      rowRun pre = (rows, c.cur, c.last) →
      rows.length ≤ pre.length →
      c.cur.length ≤ pre.length → P7i pre c
structure P7 (pre : List Int) (c : S7) : Prop where
  out : P7i pre c
set_option maxHeartbeats 3000000 in
theorem c_law_rows {x : Str} {t : Tok} (y : YP w s.heap) (hr : Room A 1) (hz : x.length ≤ 1048576) :
    wpAny (model pw w) A (call (.ref 232) [.str x t]) (Ret s fun v h => ∃ a vs n, v = .ref a ∧ h.get? a = some (listOf vs.toArray n) ∧ s.heap.get? a = none ∧ StrsAre vs (rowsOf x)) E s := by
  refine enterF (k := 0) (args := ⟨[.str x t], []⟩) (binds := [(Str.ofString "text", .str x t)]) "_law_rows" "_law_rows" (stAt 25) .none _ hr y (by rfl) (by rfl) ⟨_, _, _, by rfl, by rfl, by rfl⟩ (BindsTo.of_eq (by rfl)) (locs (by rfl)) ⟨by rfl, by rfl, by rfl, by rfl⟩ (fun h₁ r F N => ?_)
  walk_at "MINE"
  k_sweep
  rename Fr _ _ _ _ => F'
  rename News _ _ _ _ => N'
  refine For_invVF F' (by rfl) (by rfl) ?_ (by intro _; rfl) noPass7
  walk1
  obtain ⟨tt, htt⟩ : ∃ tt, tt = s.toks + [(Str.ofString "text", Value.str x t)].length := ⟨_, rfl⟩
  rw [← htt] at N'
  refine KStt.kst_text (σ := S7) (fun c => [(h₁.objs.size, listOf (c.us ++ [Value.str c.cur c.t2]).toArray c.n)]) (fun c => [(Str.ofString "last", Value.str c.last c.t1)]) (fun _ => True) [] P7 ⟨[], "", tt, 0, "", ?t1⟩ r.handled F' N' trivial ?kk ?kp ?turn ?done
  case kk => kst_all
  case kp => exact ⟨⟨[], .nil, rfl, Nat.le_refl _, Nat.le_refl _⟩⟩
  case turn =>
    rintro ⟨us, cur, t2, cn, last, t1⟩ pre post n tn u h tk own hks hoff _ hP F'' N''
    clear F' N'
    obtain ⟨rows, ho, hrun, hl, hc⟩ := hP
    dsimp only at ho hrun hl hc F''
    replace hoff : OwnOff own [h₁.objs.size] := hoff
    replace N'' : News s.heap s.heap.objs.size h ((h₁.objs.size, listOf (us ++ [Value.str cur t2]).toArray cn) :: own) := N''
    have e2 : pre.length ≤ x.length := by
      have := congrArg List.length hks
      rw [KStt.codes_length, List.length_append] at this
      (first | lia | omega)
    have hvl : us.length ≤ 1048576 := by
      have e1 := ho.length
      (first | lia | omega)
    have hsA : cur.length + (⟨#[n]⟩ : Str).length ≤ sizeLine := by
      rw [sizeLine_eq]
      show cur.length + 1 ≤ _
      (first | lia | omega)
    walk_at "MINE"
    all_goals have en : ((n : Nat) : Int).toNat = n := Int.toNat_natCast n
    all_goals first
      | (exfalso; exact absurd (by assumption : (({ cps := #[n] } : Str) == Str.ofString "\r") = true) (ne_true_of_eq_false (by assumption)))
      | (walk_at "END6b"
         refine ⟨?_⟩
         first
        | (refine ⟨_, ho, ?_, ?_, ?_⟩
           · rw [rowRun_snoc, hrun]
             simp only [rowStep, en]
             repeat (first | rw [if_pos (by assumption)] | rw [if_neg (ne_true_of_eq_false (by assumption))])
           · rw [List.length_append]; (first | lia | omega)
           · rw [List.length_append]; first | (show cur.length ≤ _; (first | lia | omega)) | (show (cur ++ ⟨#[n]⟩ : Str).length ≤ _; rw [Str.length_append]; show cur.length + 1 ≤ _; simp only [List.length_cons, List.length_nil]; (first | lia | omega)))
        | (refine ⟨_, ho.append' (.cons _ _ .nil), ?_, ?_, ?_⟩
           · rw [rowRun_snoc, hrun]
             simp only [rowStep, en]
             repeat (first | rw [if_pos (by assumption)] | rw [if_neg (ne_true_of_eq_false (by assumption))])
             rfl
           · rw [List.length_append, List.length_append]; simp only [List.length_cons, List.length_nil]; (first | lia | omega)
           · exact Nat.zero_le _)
        | trace_state)
  case done =>
    intro c u h tk _ hP F'' N''
    clear F' N'
    obtain ⟨rows, ho, hrun, hl, hc⟩ := hP
    replace N'' : News s.heap s.heap.objs.size h [(h₁.objs.size, listOf (c.us ++ [Value.str c.cur c.t2]).toArray c.n)] := N''
    walk_at "MINE"
    refine done_at (P := fun v h => ∃ a vs n, v = .ref a ∧ h.get? a = some (listOf vs.toArray n) ∧ s.heap.get? a = none ∧ StrsAre vs (rowsOf x)) (by assumption) ⟨_, _, _, rfl, (N'' _ (.head _)).1, (N'' _ (.head _)).2.2, ?_⟩
    unfold rowsOf
    rw [hrun]
    exact ho.append' (.cons _ _ .nil)
end
end Mine
end P_Wk7
section P_Wk8a
open PySem PySem.W PySem.Calls PyProof.Rows
set_option linter.unusedVariables false
namespace Mine
/-- a for over a general iterator whose values are known by place: own state rule (from the list of what it gives) -/
theorem kst_walk {prog : Program} {w : World} {A : Around} {E : Value → Shared → Prop} {s : Shared} {env : Env} {h₀ : Heap} {x : Str} {body : List Stmt} {Q : Flow → Shared → Prop}
    {σ : Type} {I : Addr} {n : Nat} {V : Nat → Value → Prop} {St : Nat → Heap → Prop} {m₀ : Str → Option Value} (Led : σ → List (Addr × Obj)) (ps : σ → List (Str × Value)) (stored : List Str) (P : Nat → σ → Prop) (c₀ : σ)
    (W : Walks prog w A I [I] [I] n V St) (hIL : I ≠ env.locals) (hnew : h₀.get? I = none) (hoffI : ∀ p ∈ Led c₀, p.1 ≠ I) (hst : St 0 s.heap)
    (F : Fr h₀ env.locals s.heap m₀) (N : News h₀ env.locals s.heap (Led c₀)) (hk : ∀ p ∈ ps c₀, m₀ p.1 = some p.2) (hp : P 0 c₀)
    (turn : ∀ (c : σ) (i : Nat) (v : Value) (u : Str → Option Value) h tk own, i < n → V i v → OwnOff own ((Led c₀).map (·.1)) → P i c →
      Fr h₀ env.locals h (fun y => if y = x then some v else kstB (fun z => if stored.contains z then u z else m₀ z) (ps c) y) → News h₀ env.locals h (Led c ++ own) →
      wpAny (model prog w) A (execs body env) (InvPostN h₀ env.locals (KstS Led ps (fun _ => True) x stored m₀ (fun pre c => P pre.length c) (List.replicate (i + 1) 0)) own ((Led c₀).map (·.1)) { s with heap := h, toks := tk } Q) E { s with heap := h, toks := tk })
    (done : ∀ (c : σ) (u : Str → Option Value) h tk, P n c → Fr h₀ env.locals h (fun y => if y = x then u y else kstB (fun z => if stored.contains z then u z else m₀ z) (ps c) y) → News h₀ env.locals h (Led c) → Q .next { s with heap := h, toks := tk }) :
    LoopAtV prog w A h₀ env x body Q E (.ref I) s := by
  refine loop_invN (fun i m nx => KstS Led ps (fun _ => True) x stored m₀ (fun pre c => P pre.length c) (List.replicate i 0) m nx) W ?_ ?_ ?_ ?_ hst F N ⟨c₀, rfl, trivial, hk, fun _ _ _ _ => rfl, by simpa using hp⟩ ?_ ?_
  · intro hm; exact hIL (List.mem_singleton.mp hm).symm
  · intro b hb; rw [List.mem_singleton.mp hb]; exact hnew
  · intro p hp hI; exact hoffI p hp (List.mem_singleton.mp hI)
  · intro p hp hI; exact hoffI p hp (List.mem_singleton.mp hI)
  · rintro i v m₁ nx h tk own hi hV _ hoff ⟨c, rfl, _, h1, h2, hp'⟩ F₁ N₁
    exact turn c i v m₁ h tk own hi hV hoff (by simpa using hp') (kst_fr h1 h2 F₁) N₁
  · rintro m₁ nx h tk ⟨c, rfl, _, h1, h2, hp'⟩ F₁ N₁
    exact done c m₁ h tk (by simpa using hp') (kst_frOut h1 h2 F₁) N₁
end Mine
end P_Wk8a
section P_Wk8
open PySem PySem.W PySem.Calls PyProof.Rows
set_option linter.unusedVariables false
set_option maxRecDepth 100000
namespace Mine
theorem rules_Wk8_1 : True := by
  k_with_none
  k_with "eval Name" => ((with_reducible refine' ld ?gF ?gv ?_ ?gk ?gl ?gd); (case gF => assumption); (case gl => with_unfolding_all exact rfl); (case gv => with_unfolding_all exact rfl); (case gk => with_unfolding_all exact rfl); (case gd => with_unfolding_all exact rfl))
  k_with "eval Name" => ((first | (with_reducible refine' l_ascii_buffer ?gF ?gy ?gk ?gx ?_) | (with_reducible refine' l_buffer ?gF ?gy ?gk ?gx ?_) | (with_reducible refine' l_truth ?gF ?gy ?gk ?gx ?_) | (with_reducible refine' l_b64_value ?gF ?gy ?gk ?gx ?_) | (with_reducible refine' l_a2b_base64 ?gF ?gy ?gk ?gx ?_) | (with_reducible refine' l_b2a_base64 ?gF ?gy ?gk ?gx ?_) | (with_reducible refine' l_Authenticator ?gF ?gy ?gk ?gx ?_) | (with_reducible refine' l_twin_re_1 ?gF ?gy ?gk ?gx ?_) | (with_reducible refine' l_twin_re_2 ?gF ?gy ?gk ?gx ?_) | (with_reducible refine' l_quotedata ?gF ?gy ?gk ?gx ?_) | (with_reducible refine' l_b1_set ?gF ?gy ?gk ?gx ?_) | (with_reducible refine' l_in_table_b1 ?gF ?gy ?gk ?gx ?_) | (with_reducible refine' l_b3_exceptions ?gF ?gy ?gk ?gx ?_) | (with_reducible refine' l_map_table_b3 ?gF ?gy ?gk ?gx ?_) | (with_reducible refine' l_law_piece ?gF ?gy ?gk ?gx ?_) | (with_reducible refine' l_law_rows ?gF ?gy ?gk ?gx ?_) | (with_reducible refine' l_law_in_fours ?gF ?gy ?gk ?gx ?_) | (with_reducible refine' l_law_prepares ?gF ?gy ?gk ?gx ?_) | (with_reducible refine' l_law_sends ?gF ?gy ?gk ?gx ?_) | (with_reducible refine' l_B64 ?gF ?gy ?gk ?gx ?_) | (with_reducible refine' l_CRLF ?gF ?gy ?gk ?gx ?_) | (with_reducible refine' l_type ?gF ?gy ?gk ?gx ?_) | (with_reducible refine' l_str ?gF ?gy ?gk ?gx ?_) | (with_reducible refine' l_bytes ?gF ?gy ?gk ?gx ?_) | (with_reducible refine' l_bytearray ?gF ?gy ?gk ?gx ?_) | (with_reducible refine' l_bool ?gF ?gy ?gk ?gx ?_) | (with_reducible refine' l_int ?gF ?gy ?gk ?gx ?_) | (with_reducible refine' l_float ?gF ?gy ?gk ?gx ?_) | (with_reducible refine' l_complex ?gF ?gy ?gk ?gx ?_) | (with_reducible refine' l_list ?gF ?gy ?gk ?gx ?_) | (with_reducible refine' l_tuple ?gF ?gy ?gk ?gx ?_) | (with_reducible refine' l_dict ?gF ?gy ?gk ?gx ?_) | (with_reducible refine' l_set ?gF ?gy ?gk ?gx ?_) | (with_reducible refine' l_frozenset ?gF ?gy ?gk ?gx ?_) | (with_reducible refine' l_range ?gF ?gy ?gk ?gx ?_) | (with_reducible refine' l_ord ?gF ?gy ?gk ?gx ?_) | (with_reducible refine' l_chr ?gF ?gy ?gk ?gx ?_) | (with_reducible refine' l_len ?gF ?gy ?gk ?gx ?_) | (with_reducible refine' l_isinstance ?gF ?gy ?gk ?gx ?_)); (case gF => assumption); (case gy => assumption); (case gk => with_unfolding_all exact rfl); (case gx => with_unfolding_all exact rfl))
  k_with "call type:type" => ((with_reducible refine' call_type_of (Tx := "bytes") (typeIs_bytes _ _ _) ?hnb ?_); (case hnb => decide))
  k_with "callWith ref" => (refine callWith_y ⟨_, _, (by with_unfolding_all exact rfl), (by with_unfolding_all exact rfl)⟩ ?_)
  k_with "And" => ((with_reducible show YP _ _ ∧ wpAny _ _ (call (Value.ref _) _ _) _ _ _); refine' And.intro ?gA ?_; (case gA => exact YP.fr (by assumption) (by assumption)))
  k_with "unpackItems ref" => ((refine' unpackItemsN_ ?gF ?gN ?gT ?gh ?gn ?_; (case gF => assumption); (case gN => assumption); (case gT => exact News.isTup (by assumption) (by k_mem)); (case gh => exact Room.handled (by assumption)); (case gn => with_unfolding_all exact rfl)); intro _ _ _)
  k_with "getMethod ref" => (refine' listMethod_K ?gN ?gm PySem.F.slot_list_append PySem.F.type_list_append ?_; (case gN => assumption); (case gm => k_mem))
  k_with "call builtin:list.append" => ((refine' append_K ?gF ?gN ?gU ?_ ?gz; (case gF => assumption); (case gN => assumption); (case gU => k_upd); (case gz => first | assumption | (simp only [Array.size_push, List.size_toArray, List.length_append, List.length_cons, List.length_nil, sizeLine_eq] at *; omega) | size_fits)); intro _ _ _)
  k_with "call ref" => ((first
  | (with_reducible refine' useI ?gF ?gN (c_b64_value ?gy ?gr) ?_)
  | (with_reducible refine' useB ?gF ?gN (c_ascii_buffer ?gy ?gr) ?_)
  | (with_reducible refine' useB ?gF ?gN (c_buffer ?gy ?gr) ?_)
  | (with_reducible refine' useT ?gF ?gN (c_truth ?gy ?gr) ?_)); (case gF => assumption); (case gN => assumption); (case gy => exact YP.fr (by assumption) (by assumption)); (case gr => exact Room.le (by assumption) (by decide)); intros)
  k_with "MINE" => repeat' ((fail_if_success (with_reducible show InvEndN _ _ _ _ _ _ _)); (fail_if_success (with_reducible show WNext _ _ _ _ _ _ _ _ _ _ _)); (fail_if_success (with_reducible show wpAny _ _ (exec (Stmt.While _ _ _ _) _) _ _ _)); (fail_if_success (with_reducible show wpAny _ _ (exec (Stmt.For _ _ _ _ _) _) _ _ _)); walk1)
  trivial
theorem noPass8 {M : Model} {A : Around} {env : Env} : PassesOwn M A env (fun _ _ => False) := fun _ _ h => h.elim
theorem rules_Wk8_2 : True := by
  k_with "subscriptTail" => ((with_reducible show wpAny _ _ (subscriptTail _ (Expr.Slice _ _ none _) (Value.bytes _ _) (Value.ref _)) _ _ _); (with_reducible rename Fr _ _ _ _ => gF); (with_reducible rename News _ _ _ _ => gN); (refine KBc.slice_K (s := ⟨_, _, _, _, _⟩) gF gN rfl (by constructor) (by constructor) (by assumption) ?_); intro _ _ _ _ _ _)
  trivial
theorem mul24 {prog : Program} {w : World} {A : Around} {E : Value → Shared → Prop} {s : Shared} {Q : Value → Shared → Prop} {num : Int} {sz : Nat} {t u : Tok} (h0 : 0 ≤ num) (h1 : num < 256 ^ sz) (h3 : sz ≤ 3)
    (h : ∀ N, N = num * 256 ^ (3 - (sz : Int)).toNat → 0 ≤ N → N < 16777216 → Q (.int N s.toks) { s with toks := s.toks + 1 }) :
    wpAny (model prog w) A (inplaceOp .Mult (.int num t) (.int (256 ^ (3 - (sz : Int)).toNat) u)) Q E s := by
  have hb : sz = 0 ∨ sz = 1 ∨ sz = 2 ∨ sz = 3 := by omega
  have hn : num < 16777216 := by rcases hb with rfl | rfl | rfl | rfl <;> simp at h1 <;> omega
  refine imul_int (h _ rfl ?_ ?_) (IntMulOk.of_left (intBits_le_64 (by omega) (by omega)))
  · rcases hb with rfl | rfl | rfl | rfl <;> simp <;> omega
  · rcases hb with rfl | rfl | rfl | rfl <;> simp at h1 ⊢ <;> omega
noncomputable def sixtyfour : Str := Str.ofString "ABCDEFGHIJKLMNOPQRSTUVWXYZabcdefghijklmnopqrstuvwxyz0123456789+/"
theorem sgn_at {prog : Program} {w : World} {A : Around} {E : Value → Shared → Prop} {s : Shared} {value slice : PySem.Expr} {t u : Tok} {i : Int} {Q : Value → Shared → Prop}
    (h0 : 0 ≤ i) (h1 : i < 64) (h : (Txt.item sixtyfour i).length = 1 → Q (.str (Txt.item sixtyfour i) s.toks) { s with toks := s.toks + 1 })
    (hs : subscripted slice false (.str sixtyfour t) (.int i u) = operate [.str sixtyfour t, .int i u] (getItem (.str sixtyfour t) (.int i u)) := by with_unfolding_all rfl)
    (ht : ∀ r, letTemporaryGo value (.str sixtyfour t) r = pure () := by intro _; with_unfolding_all rfl) :
    wpAny (model prog w) A (subscriptTail value slice (.str (Str.ofString "ABCDEFGHIJKLMNOPQRSTUVWXYZabcdefghijklmnopqrstuvwxyz0123456789+/") t) (.int i u)) Q E s :=
  KXi.item (n := 64) (by decide) (by omega) (by omega) (by decide) h hs ht
theorem fdivE {prog : Program} {w : World} {A : Around} {E : Value → Shared → Prop} {s : Shared} {Q : Value → Shared → Prop} {a b : Int} {t u : Tok} (hb : 0 < b) (hl : b.natAbs.log2 < 9000) (h : Q (.int (a / b) s.toks) { s with toks := s.toks + 1 }) : wpAny (model prog w) A (binaryOp .FloorDiv (.int a t) (.int b u)) Q E s :=
  floordiv_int (by omega) (by rw [Int.fdiv_eq_ediv_of_nonneg _ (by omega)]; exact h) (Or.inl (PyProof.noPylong_of_log2 hl))
theorem fmodE {prog : Program} {w : World} {A : Around} {E : Value → Shared → Prop} {s : Shared} {Q : Value → Shared → Prop} {a b : Int} {t u : Tok} (hb : 0 < b) (h : Q (.int (a % b) s.toks) { s with toks := s.toks + 1 }) : wpAny (model prog w) A (binaryOp .Mod (.int a t) (.int b u)) Q E s :=
  mod_int' (by omega) (by rw [Int.fmod_eq_emod_of_nonneg _ (by omega)]; exact h)
theorem rules_Wk8_3 : True := by
  k_with "binaryOp Pow int int" => (refine pow_int_small (by omega) (by omega) (by decide) ?_)
  k_with "inplaceOp Mult int int" => ((refine mul24 (by assumption) (by assumption) (by assumption) ?_); intro N eN hN0 hN1)
  k_with "binaryOp FloorDiv int int" => (refine fdivE (by decide) (by decide +kernel) ?_)
  k_with "binaryOp Mod int int" => (refine fmodE (by decide) ?_)
  k_with "subscriptTail" => ((with_reducible show wpAny _ _ (subscriptTail _ _ (Value.str _ _) (Value.int _ _)) _ _ _); (refine sgn_at (by omega) (by omega) ?_); intro _)
  k_with "binaryOp Add str str" => ((refine SBL.add (hsz := ?hsz) ?_); (case hsz => (rw [sizeLine_eq]; (try simp only [Str.length_append]); (first | lia | omega))); intro _ _ _)
  k_with "inplaceOp Add str str" => ((refine SBL.iadd (hsz := ?hsz) ?_); (case hsz => (rw [sizeLine_eq]; omega)); intro _ _ _)
  trivial
noncomputable def numOf (l : List Int) : Int := l.foldl (fun a k => a * 256 + k) 0
theorem numOf_snoc (l : List Int) (k : Int) : numOf (l ++ [k]) = numOf l * 256 + k := by simp [numOf]
theorem small3 {n : Int} (h0 : 0 ≤ n) (h : n ≤ 1048576) : Builtin.Range.small 0 n 3 = true := by
  have e : Builtin.Range.rangeSize 0 n 3 = (n + 3 - 1) / 3 := rangeSize_pos (by omega) h0
  unfold Builtin.Range.small
  rw [e]
  simp [Builtin.Range.rangeFitsLong]
  omega
theorem range3 {n : Nat} (h : n ≤ 1048576) : Builtin.Range.rangeSize 0 (n : Int) 3 = (((n + 2) / 3 : Nat) : Int) := by
  rw [rangeSize_pos (by omega) (by omega)]
  omega
noncomputable def fourOf (l : List Int) : Str :=
  (Txt.slice (Txt.item sixtyfour (numOf l * 256 ^ (3 - (l.length : Int)).toNat / 262144) ++ Txt.item sixtyfour (numOf l * 256 ^ (3 - (l.length : Int)).toNat / 4096 % 64) ++ Txt.item sixtyfour (numOf l * 256 ^ (3 - (l.length : Int)).toNat / 64 % 64) ++ Txt.item sixtyfour (numOf l * 256 ^ (3 - (l.length : Int)).toNat % 64)) none (some ((l.length : Int) + 1)) ++ Txt.mul (Str.ofString "=") (3 - (l.length : Int)))
noncomputable def blk (l : List Int) (i : Nat) : List Int := (l.drop (3 * i)).take 3
theorem picked3 {l m : List Int} {i : Nat} (h : m = List.take ((some (0 + (i : Int) * 3 + 3)).elim l.length (clipAt l.length) - (some (0 + (i : Int) * 3)).elim 0 (clipAt l.length)) (List.drop ((some (0 + (i : Int) * 3)).elim 0 (clipAt l.length)) l)) : m = blk l i := by
  rw [h]
  simp only [Option.elim, clipAt, blk]
  have e1 : (max 0 (min (if 0 + (i : Int) * 3 < 0 then 0 + (i : Int) * 3 + l.length else 0 + (i : Int) * 3) l.length)).toNat = min (3 * i) l.length := (clipP (by omega) _).trans (by rw [show (0 + (i : Int) * 3).toNat = 3 * i by omega])
  have e2 : (max 0 (min (if 0 + (i : Int) * 3 + 3 < 0 then 0 + (i : Int) * 3 + 3 + l.length else 0 + (i : Int) * 3 + 3) l.length)).toNat = min (3 * i + 3) l.length := (clipP (by omega) _).trans (by rw [show (0 + (i : Int) * 3 + 3).toNat = 3 * i + 3 by omega])
  rw [e1, e2]
  rcases Nat.le_total (3 * i) l.length with h1 | h1
  · rw [Nat.min_eq_left h1]
    apply List.ext_getElem?
    intro k
    simp only [List.getElem?_take]
    by_cases hk : k < 3
    · rw [if_pos hk]
      by_cases hk2 : k < min (3 * i + 3) l.length - 3 * i
      · rw [if_pos hk2]
      · rw [if_neg hk2, List.getElem?_drop, List.getElem?_eq_none (by omega)]
    · rw [if_neg hk, if_neg (by omega)]
  · rw [Nat.min_eq_right h1, List.drop_of_length_le (Nat.le_refl _), List.drop_of_length_le h1]
    simp
noncomputable def foursW (l : List Int) : Nat → Str
  | 0 => ""
  | i + 1 => foursW l i ++ fourOf (blk l i)
theorem add4 {prog : Program} {w : World} {A : Around} {E : Value → Shared → Prop} {s : Shared} {Q : Value → Shared → Prop} {t u : Tok} {a b c d m : Str} {n : Int} (ha : a.length = 1) (hb : b.length = 1) (hc : c.length = 1) (hd : d.length = 1) (hm : m.length ≤ 3)
    (h : ∀ t' k, (Txt.slice (a ++ b ++ c ++ d) none (some n) ++ m).length ≤ 7 → Q (.str (Txt.slice (a ++ b ++ c ++ d) none (some n) ++ m) t') { s with toks := k }) : wpAny (model prog w) A (binaryOp .Add (.str (Txt.slice (a ++ b ++ c ++ d) none (some n)) t) (.str m u)) Q E s := by
  have e := PyProof.Txt.length_slice_le (a ++ b ++ c ++ d) none (some n)
  simp only [Str.length_append] at e
  refine SBL.add (hsz := ?_) fun t' k hl => h t' k (by omega)
  rw [sizeLine_eq]; omega
theorem rules_Wk8_4 : True := by
  k_with "binaryOp Add str str" => ((refine add4 (by assumption) (by assumption) (by assumption) (by assumption) (by omega) ?_); intro _ _ h7)
  k_with "getMethod str" => (refine encM ?_)
  k_with "call builtin:str.encode" => ((refine encA (by assumption) (by assumption) ?_); intro _ _)
  k_with "binaryOp Mult str int" => ((refine KXi.mul (n := 1) (by decide) (by decide) (by omega) (by omega) ?_); intro _ _ hZ8 hN8; (have hN9 := hN8 (by omega)); clear hN8 hZ8)
  trivial
section
variable {w : World} {A : Around} {E : Value → Shared → Prop} {s : Shared}
structure S8 where
  wr : Str
  t : Tok
structure P8 (l : List Int) (i : Nat) (c : S8) : Prop where
  eq : c.wr = foursW l i
  len : c.wr.length ≤ 7 * i
set_option maxHeartbeats 3000000 in
theorem c_law_fours {b : Array UInt8} {t : Tok} (y : YP w s.heap) (hr : Room A 1) (hz : b.size ≤ 1048576) (hbad : ∀ y ∈ (foursW (KBw.bInts b) ((b.size + 2) / 3)).cps.toList, Builtin._codecs.asciiCodec.bad y = false) (hsz : (encB Builtin._codecs.asciiCodec (foursW (KBw.bInts b) ((b.size + 2) / 3))).size ≤ sizeLine) :
    wpAny (model pw w) A (call (.ref 239) [.bytes b t]) (Ret s fun v _ => ∃ t', v = .bytes (encB Builtin._codecs.asciiCodec (foursW (KBw.bInts b) ((b.size + 2) / 3))) t') E s := by
  refine enterF (k := 0) (args := ⟨[.bytes b t], []⟩) (binds := [(Str.ofString "octets", .bytes b t)]) "_law_in_fours" "_law_in_fours" (stAt 26) .none _ hr y (by rfl) (by rfl) ⟨_, _, _, by rfl, by rfl, by rfl⟩ (BindsTo.of_eq (by rfl)) (locs (by rfl)) ⟨by rfl, by rfl, by rfl, by rfl⟩ (fun h₁ r F N => ?_)
  walk_at "MINE"
  k_sweep
  rename Fr _ _ _ _ => F'
  rename News _ _ _ _ => N'
  refine For_invVF F' (by rfl) (by rfl) ?_ (by intro _; rfl) noPass8
  walk_at "MINE"
  rename IsRange _ _ _ _ _ _ _ _ => hR
  rename Fr _ _ _ _ => F2
  rename News _ _ _ _ => N2
  refine wpAny_pyIter_range hR ?small ?_
  case small => exact small3 (by omega) (by omega)
  refine kst_walk (σ := S8) (n := (b.size + 2) / 3) (fun _ => []) (fun c => [(Str.ofString "written", .str c.wr c.t)]) [Str.ofString "three", Str.ofString "number", Str.ofString "octet", Str.ofString "four"] (P8 (KBw.bInts b)) ⟨"", ?t1⟩ (Walks.range r.handled _ 0 3 _) ?hIL ?hnew (fun _ hp => nomatch hp) ?hst (F2.push _) News.nil ?kk ⟨rfl, Nat.le_refl _⟩ ?turn ?done
  case kk => kst_all
  case hIL => exact fun e => absurd (e ▸ F2.ns.lt) (Nat.lt_irrefl _)
  case hnew => exact next_is_new F2
  case hst =>
    show IsRangeIter _ _ _ _ _
    rw [range3 (by omega)]
    simpa using Heap.get?_push_size _ rfl
  case turn =>
    rintro ⟨wr, t1⟩ i v u h tk own hi ⟨tv, rfl⟩ hoff ⟨hP, hPl⟩ F3 N3
    dsimp only at hP hPl
    clear F2 N2
    have hbz : (KBw.bInts b).length ≤ 16777216 := by rw [KBw.ints_length]; omega
    walk_at "MINE"
    k_sweep
    rename KBw.bInts (KBy.picked _ _ _) = _ => hpk
    have hps : (KBy.picked b (some (0 + (i : Int) * 3)) (some (0 + (i : Int) * 3 + 3))).size ≤ 1099511627776 := Nat.le_trans (KBc.size_picked_le _ _ _) (by omega)
    obtain ⟨q, hq⟩ : ∃ q, q = KBy.picked b (some (0 + (i : Int) * 3)) (some (0 + (i : Int) * 3 + 3)) := ⟨_, rfl⟩
    rw [← hq] at hpk hps
    replace hpk : KBw.bInts q = blk (KBw.bInts b) i := picked3 hpk
    have hql := congrArg List.length hpk
    rw [KBw.ints_length] at hql
    have hq1 : 1 ≤ q.size := by
      rw [hql]; simp only [blk, List.length_take, List.length_drop, KBw.ints_length]; omega
    have hq3 : q.size ≤ 3 := by
      rw [hql]; simp only [blk, List.length_take, List.length_drop, KBw.ints_length]; omega
    clear hql
    rename Fr _ _ _ _ => F4
    rename News _ _ _ _ => N4
    rw [← hq] at F4
    refine For_invVF F4 (by rfl) (by rfl) ?_ (by intro _; rfl) noPass8
    walk1
    refine KStb.kst_bytes (σ := Int × Tok) (fun _ => own) (fun c => [(Str.ofString "number", .int c.1 c.2)]) (fun _ => True) [] (fun pre c => c.1 = numOf pre ∧ 0 ≤ c.1 ∧ c.1 < 256 ^ pre.length) ⟨0, ?tn⟩ rfl rfl r.handled F4 N4 trivial ?kk4 ⟨rfl, Int.le_refl _, (by decide : (0 : Int) < 256 ^ 0)⟩ ?turn4 ?done4
    case kk4 => kst_all
    case turn4 =>
      rintro ⟨num, tn⟩ pre post k tk4 u4 h4 tk5 own4 hks4 hlen4 hk0 hk1 hoff4 _ hP4 F5 N5
      clear F4 N4
      walk_at "MINE"
      rename News _ _ _ _ => nE
      refine kst_end2 (c := ⟨_, _⟩) (by assumption) nE rfl (by kst_all) rfl trivial ?_ ⟨?_, ?_, ?_⟩
      · intro z hz1 hz2 _
        have e0 := hz2 _ (List.Mem.head _)
        dsimp only at e0
        simp [kstB, hz1, e0]
      · dsimp only; rw [numOf_snoc, ← hP4.1]
      · have := hP4.2.1; dsimp only at this ⊢; omega
      · have := hP4.2.2; dsimp only at this ⊢; rw [List.length_append, List.length_singleton, Int.pow_succ]; omega
    case done4 =>
      rintro ⟨num, tn⟩ u4 h4 tk5 hlen4 _ hP4 F5 N5
      clear F4 N4
      obtain ⟨hnE, hn0, hn1⟩ := hP4
      dsimp only at hnE hn0 hn1 F5
      rw [KBw.ints_length] at hn1
      walk_at "MINE"
      k_sweep
      rename News _ _ _ _ => nE
      refine kst_end2 (c := ⟨_, _⟩) (by assumption) nE rfl (by kst_all) rfl trivial ?_ ⟨?_, ?_⟩
      · intro z hz1 hz2 hz3
        have e0 := hz2 _ (List.Mem.head _)
        dsimp only at e0
        obtain ⟨e1, e2, e3, e4⟩ : z ≠ Str.ofString "three" ∧ z ≠ Str.ofString "number" ∧ z ≠ Str.ofString "octet" ∧ z ≠ Str.ofString "four" := by simpa using hz3
        simp [kstB, hz1, e0, e1, e2, e3, e4]
      · dsimp only
        rename _ = num * 256 ^ _ => eN
        rw [List.length_replicate]
        show _ = foursW (KBw.bInts b) i ++ fourOf (blk (KBw.bInts b) i)
        rw [← hP, ← hpk]
        unfold fourOf
        rw [← hnE, KBw.ints_length, ← eN]
      · rw [List.length_replicate]
        show (wr ++ _ : Str).length ≤ _
        rw [Str.length_append]
        omega
  case done =>
    rintro ⟨wr, t1⟩ u h tk ⟨hw, _⟩ F3 N3
    clear F2 N2
    dsimp only at hw
    subst hw
    walk_at "MINE"
    exact done_at (P := fun v _ => ∃ t', v = .bytes (encB Builtin._codecs.asciiCodec (foursW (KBw.bInts b) ((b.size + 2) / 3))) t') (by assumption) ⟨_, rfl⟩
end
end Mine
end P_Wk8
section P_Wk3
open PySem PySem.W PySem.Calls PyProof.Rows
set_option linter.unusedVariables false
set_option maxRecDepth 100000
namespace Mine
theorem rules_Wk3_1 : True := by
  k_with_none
  k_with "eval Name" => ((with_reducible refine' ld ?gF ?gv ?_ ?gk ?gl ?gd); (case gF => assumption); (case gl => with_unfolding_all exact rfl); (case gv => with_unfolding_all exact rfl); (case gk => with_unfolding_all exact rfl); (case gd => with_unfolding_all exact rfl))
  k_with "eval Name" => ((first | (with_reducible refine' l_ascii_buffer ?gF ?gy ?gk ?gx ?_) | (with_reducible refine' l_buffer ?gF ?gy ?gk ?gx ?_) | (with_reducible refine' l_truth ?gF ?gy ?gk ?gx ?_) | (with_reducible refine' l_b64_value ?gF ?gy ?gk ?gx ?_) | (with_reducible refine' l_a2b_base64 ?gF ?gy ?gk ?gx ?_) | (with_reducible refine' l_b2a_base64 ?gF ?gy ?gk ?gx ?_) | (with_reducible refine' l_Authenticator ?gF ?gy ?gk ?gx ?_) | (with_reducible refine' l_twin_re_1 ?gF ?gy ?gk ?gx ?_) | (with_reducible refine' l_twin_re_2 ?gF ?gy ?gk ?gx ?_) | (with_reducible refine' l_quotedata ?gF ?gy ?gk ?gx ?_) | (with_reducible refine' l_b1_set ?gF ?gy ?gk ?gx ?_) | (with_reducible refine' l_in_table_b1 ?gF ?gy ?gk ?gx ?_) | (with_reducible refine' l_b3_exceptions ?gF ?gy ?gk ?gx ?_) | (with_reducible refine' l_map_table_b3 ?gF ?gy ?gk ?gx ?_) | (with_reducible refine' l_law_piece ?gF ?gy ?gk ?gx ?_) | (with_reducible refine' l_law_rows ?gF ?gy ?gk ?gx ?_) | (with_reducible refine' l_law_in_fours ?gF ?gy ?gk ?gx ?_) | (with_reducible refine' l_law_prepares ?gF ?gy ?gk ?gx ?_) | (with_reducible refine' l_law_sends ?gF ?gy ?gk ?gx ?_) | (with_reducible refine' l_B64 ?gF ?gy ?gk ?gx ?_) | (with_reducible refine' l_CRLF ?gF ?gy ?gk ?gx ?_) | (with_reducible refine' l_type ?gF ?gy ?gk ?gx ?_) | (with_reducible refine' l_str ?gF ?gy ?gk ?gx ?_) | (with_reducible refine' l_bytes ?gF ?gy ?gk ?gx ?_) | (with_reducible refine' l_bytearray ?gF ?gy ?gk ?gx ?_) | (with_reducible refine' l_bool ?gF ?gy ?gk ?gx ?_) | (with_reducible refine' l_int ?gF ?gy ?gk ?gx ?_) | (with_reducible refine' l_float ?gF ?gy ?gk ?gx ?_) | (with_reducible refine' l_complex ?gF ?gy ?gk ?gx ?_) | (with_reducible refine' l_list ?gF ?gy ?gk ?gx ?_) | (with_reducible refine' l_tuple ?gF ?gy ?gk ?gx ?_) | (with_reducible refine' l_dict ?gF ?gy ?gk ?gx ?_) | (with_reducible refine' l_set ?gF ?gy ?gk ?gx ?_) | (with_reducible refine' l_frozenset ?gF ?gy ?gk ?gx ?_) | (with_reducible refine' l_range ?gF ?gy ?gk ?gx ?_) | (with_reducible refine' l_ord ?gF ?gy ?gk ?gx ?_) | (with_reducible refine' l_chr ?gF ?gy ?gk ?gx ?_) | (with_reducible refine' l_len ?gF ?gy ?gk ?gx ?_) | (with_reducible refine' l_isinstance ?gF ?gy ?gk ?gx ?_)); (case gF => assumption); (case gy => assumption); (case gk => with_unfolding_all exact rfl); (case gx => with_unfolding_all exact rfl))
  k_with "call type:type" => ((with_reducible refine' call_type_of (Tx := "bytes") (typeIs_bytes _ _ _) ?hnb ?_); (case hnb => decide))
  k_with "callWith ref" => (refine callWith_y ⟨_, _, (by with_unfolding_all exact rfl), (by with_unfolding_all exact rfl)⟩ ?_)
  k_with "And" => ((with_reducible show YP _ _ ∧ wpAny _ _ (call (Value.ref _) _ _) _ _ _); refine' And.intro ?gA ?_; (case gA => exact YP.fr (by assumption) (by assumption)))
  k_with "unpackItems ref" => ((refine' unpackItemsN_ ?gF ?gN ?gT ?gh ?gn ?_; (case gF => assumption); (case gN => assumption); (case gT => exact News.isTup (by assumption) (by k_mem)); (case gh => exact Room.handled (by assumption)); (case gn => with_unfolding_all exact rfl)); intro _ _ _)
  k_with "getMethod ref" => (refine' listMethod_K ?gN ?gm PySem.F.slot_list_append PySem.F.type_list_append ?_; (case gN => assumption); (case gm => k_mem))
  k_with "call builtin:list.append" => ((refine' append_K ?gF ?gN ?gU ?_ ?gz; (case gF => assumption); (case gN => assumption); (case gU => k_upd); (case gz => first | assumption | (simp only [Array.size_push, List.size_toArray, List.length_append, List.length_cons, List.length_nil, sizeLine_eq] at *; (first | lia | omega)) | size_fits)); intro _ _ _)
  k_with "call ref" => ((first
  | (with_reducible refine' useI ?gF ?gN (c_b64_value ?gy ?gr) ?_)
  | (with_reducible refine' useB ?gF ?gN (c_ascii_buffer ?gy ?gr) ?_)
  | (with_reducible refine' useB ?gF ?gN (c_buffer ?gy ?gr) ?_)
  | (with_reducible refine' useT ?gF ?gN (c_truth ?gy ?gr) ?_)); (case gF => assumption); (case gN => assumption); (case gy => exact YP.fr (by assumption) (by assumption)); (case gr => exact Room.le (by assumption) (by decide)); intros)
  k_with "MINE" => repeat' ((fail_if_success (with_reducible show InvEndN _ _ _ _ _ _ _)); (fail_if_success (with_reducible show WNext _ _ _ _ _ _ _ _ _ _ _)); (fail_if_success (with_reducible show wpAny _ _ (exec (Stmt.While _ _ _ _) _) _ _ _)); (fail_if_success (with_reducible show wpAny _ _ (exec (Stmt.For _ _ _ _ _) _) _ _ _)); walk1)
  k_with "END10" => ((rename News _ _ _ _ => nE); (try simp only [List.push_toArray] at nE); (refine kst_end2 (c := ⟨_, _, _, _, _, _, _, _, _, _⟩) (by assumption) nE (by with_unfolding_all rfl) (by kst_all) (by rfl) trivial (by (intro z hz1 hz2 _; have e0 := hz2 _ (List.Mem.head _); have e1 := hz2 _ (List.Mem.tail _ (List.Mem.head _)); have e2 := hz2 _ (List.Mem.tail _ (List.Mem.tail _ (List.Mem.head _))); have e3 := hz2 _ (List.Mem.tail _ (List.Mem.tail _ (List.Mem.tail _ (List.Mem.head _)))); dsimp only at e0 e1 e2 e3; simp [kstB, hz1, e0, e1, e2, e3])) ?_))
  trivial
theorem bindsLoad {s : Shared} {fd : FuncData} {args : Args} {binds : List (Str × Value)} {a : Addr} {part : Option Value} {K : Obj → Sem (List (Str × Value))} {o : Obj} (ho : s.heap.get? a = some o)
    (h₁ : bindArgs fd args = .load a part K) (h₂ : K o = pure binds) : BindsTo s fd args binds := fun M A E Q hq => by
  rw [h₁]
  have e : (Sem.load a part K : Sem (List (Str × Value))) = (loadPart a part >>= K) := rfl
  rw [e]
  refine wpAny_bind (wpAny_loadPart ho ?_)
  rw [h₂]
  exact wpAny_pure hq
section
variable {w : World} {A : Around} {E : Value → Shared → Prop} {s : Shared}
structure S2A where
  vs : List Value
  n : Nat
  qp : Int
  left : Int
  pads : Int
  i : Int
  t1 : Tok
  t2 : Tok
  t3 : Tok
  t4 : Tok
noncomputable abbrev Q2A := List Int × Int × Int × Int
noncomputable def a2bStep (p : Q2A) (c : Int) : Q2A :=
  if c = 61 then (p.1, p.2.1, p.2.2.1, p.2.2.2 + 1)
  else if 64 ≤ b64v c then p
  else if p.2.1 = 0 then (p.1, 1, b64v c, 0)
  else if p.2.1 = 1 then (p.1 ++ [Builtin.bitOr (p.2.2.1 * 2 ^ (2 : Int).toNat) ((b64v c).fdiv (2 ^ (4 : Int).toNat))], 2, Builtin.bitAnd (b64v c) 15, 0)
  else if p.2.1 = 2 then (p.1 ++ [Builtin.bitOr (p.2.2.1 * 2 ^ (4 : Int).toNat) ((b64v c).fdiv (2 ^ (2 : Int).toNat))], 3, Builtin.bitAnd (b64v c) 3, 0)
  else (p.1 ++ [Builtin.bitOr (p.2.2.1 * 2 ^ (6 : Int).toNat) (b64v c)], 0, 0, 0)
noncomputable def a2bRun (ks : List Int) : Q2A := ks.foldl a2bStep ([], 0, 0, 0)
theorem a2bRun_snoc (ks : List Int) (k : Int) : a2bRun (ks ++ [k]) = a2bStep (a2bRun ks) k := by simp [a2bRun]
theorem b64v_nonneg (c : Int) : 0 ≤ b64v c := by unfold b64v; (repeat' split) <;> (first | lia | omega)
inductive P2Ai (pre : List Int) (c : S2A) : Prop
  | mk (out : List Int) : IntsAre c.vs out →
      a2bRun pre = (out, c.qp, c.left, c.pads) →
      out.length ≤ pre.length → P2Ai pre c
structure P2A (pre : List Int) (c : S2A) : Prop where
  out : P2Ai pre c
  lo : 0 ≤ c.left
  hi : c.left < 64
theorem noPass {M : Model} {A : Around} {env : Env} : PassesOwn M A env (fun _ _ => False) := fun _ _ h => h.elim
set_option maxHeartbeats 6000000 in
theorem c_a2b {b : Array UInt8} {t : Tok} {out : List Int} {qp left pads : Int} (y : YP w s.heap) (hr : Room A 2) (hz : b.size ≤ 1048576) (hf : a2bRun (KBw.bInts b) = (out, qp, left, pads)) (h1 : qp ≠ 1) (h2 : qp = 0 ∨ 4 ≤ qp + pads) (hin : ∀ n ∈ out, 0 ≤ n ∧ n < 256) :
    wpAny (model pw w) A (call (.ref 87) [.bytes b t]) (Ret s fun v _ => ∃ t, v = .bytes (byteArr out) t) E s := by
  refine enterF (k := 1) (args := ⟨[.bytes b t], []⟩) (binds := [(Str.ofString "data", .bytes b t), (Str.ofString "strict_mode", .bool false)]) "a2b_base64" "a2b_base64" (stAt 9) (.ref 80) _ hr y (by rfl) (by rfl) ⟨_, _, _, by rfl, by rfl, by rfl⟩ (bindsLoad (y 80 (o80_2 w.params) (by rfl)) (by rfl) (by rfl)) (locs (by rfl)) ⟨by rfl, by rfl, by rfl, by rfl⟩ (fun h₁ r F N => ?_)
  walk
  k_sweep
  rename Fr _ _ _ _ => F'
  rename News _ _ _ _ => N'
  rename_i D _ _ _ _ _ _
  refine For_invVF F' (by rfl) (by rfl) ?_ (by intro _; rfl) noPass
  walk1
  refine KStb.kst_bytes (σ := S2A) (fun c => [(D.objs.size, listOf c.vs.toArray c.n)]) (fun c => [(Str.ofString "pads", .int c.pads c.t1), (Str.ofString "quad_pos", .int c.qp c.t2), (Str.ofString "leftchar", .int c.left c.t3), (Str.ofString "i", .int c.i c.t4)]) (fun _ => True) [] P2A ⟨[], 0, 0, 0, 0, 0, ?t1, ?t2, ?t3, ?t4⟩ rfl rfl r.handled F' N' trivial ?kk ?kp ?turn ?done
  case kk => kst_all
  case kp => exact ⟨⟨[], .nil, rfl, Nat.le_refl _⟩, Int.le_refl _, (by decide : (0 : Int) < 64)⟩
  case turn =>
    rintro ⟨cvs, cn, cqp, cleft, cpads, ci, ct1, ct2, ct3, ct4⟩ pre post n tn u h tk own hks hlen hn0 hn1 hoff _ hP F'' N''
    clear F' N'
    obtain ⟨⟨o, ho, hrun, hol⟩, hl0, hl1⟩ := hP
    dsimp only at ho hrun hl0 hl1 F''
    have hb0 := b64v_nonneg n
    replace hoff : OwnOff own [D.objs.size] := hoff
    replace N'' : News s.heap s.heap.objs.size h ((D.objs.size, listOf cvs.toArray cn) :: own) := N''
    have hvz : cvs.toArray.size ≤ sizeLine := by
      have e1 := ho.length
      have e2 := KBw.ints_length b
      rw [List.size_toArray, sizeLine_eq]
      (first | lia | omega)
    walk_at "MINE"
    all_goals walk_at "END10"
    all_goals refine ⟨?_, ?_, ?_⟩
    all_goals first
      | (refine ⟨_, ho, ?_, ?_⟩ <;> first | (rw [a2bRun_snoc, hrun]; simp [a2bStep, *]; done) | (rw [List.length_append]; (first | lia | omega)))
      | (refine ⟨_, ho.append (.cons _ _ .nil), ?_, ?_⟩ <;> first | (rw [a2bRun_snoc, hrun]; simp [a2bStep, *]; done) | (rw [List.length_append, List.length_append]; simp only [List.length_cons, List.length_nil]; (first | lia | omega)))
      | (dsimp only; first | exact hl0 | exact hb0 | exact (bitAnd_range _ (by decide)).1 | exact Int.le_refl 0)
      | (dsimp only; first | exact hl1 | (first | lia | omega) | exact Int.lt_of_le_of_lt (bitAnd_range (b64v n) (y := 15) (by decide)).2 (by decide) | exact Int.lt_of_le_of_lt (bitAnd_range (b64v n) (y := 3) (by decide)).2 (by decide))
  case done =>
    intro c u h tk hlen _ hP F'' N''
    clear F' N'
    obtain ⟨⟨o, ho, hrun, hol⟩, hl0, hl1⟩ := hP
    rw [hf] at hrun
    obtain ⟨rfl, rfl, rfl, rfl⟩ : out = o ∧ qp = c.qp ∧ left = c.left ∧ pads = c.pads := by simpa using hrun
    replace N'' : News s.heap s.heap.objs.size h [(D.objs.size, listOf c.vs.toArray c.n)] := N''
    walk
    all_goals first
      | (exfalso; first | exact h1 (by assumption) | (first | lia | omega))
      | (refine KBa.make_K (by assumption) (by assumption) r.handled ⟨_, (N'' _ (.head _)).1, rfl, _, rfl⟩ ho hin (by have := KBw.ints_length b; (first | lia | omega)) fun h' t' k F3 N3 _ => ?_
         exact done_at (P := fun v _ => ∃ t, v = .bytes (byteArr out) t) F3 ⟨_, rfl⟩)
end
end Mine
end P_Wk3
section P_Wk4
open PySem PySem.W PySem.Calls PyProof.Rows
set_option linter.unusedVariables false
set_option maxRecDepth 100000
namespace Mine
theorem rules_Wk4_1 : True := by
  k_with_none
  k_with "eval Name" => ((with_reducible refine' ld ?gF ?gv ?_ ?gk ?gl ?gd); (case gF => assumption); (case gl => with_unfolding_all exact rfl); (case gv => with_unfolding_all exact rfl); (case gk => with_unfolding_all exact rfl); (case gd => with_unfolding_all exact rfl))
  k_with "eval Name" => ((first | (with_reducible refine' l_ascii_buffer ?gF ?gy ?gk ?gx ?_) | (with_reducible refine' l_buffer ?gF ?gy ?gk ?gx ?_) | (with_reducible refine' l_truth ?gF ?gy ?gk ?gx ?_) | (with_reducible refine' l_b64_value ?gF ?gy ?gk ?gx ?_) | (with_reducible refine' l_a2b_base64 ?gF ?gy ?gk ?gx ?_) | (with_reducible refine' l_b2a_base64 ?gF ?gy ?gk ?gx ?_) | (with_reducible refine' l_Authenticator ?gF ?gy ?gk ?gx ?_) | (with_reducible refine' l_twin_re_1 ?gF ?gy ?gk ?gx ?_) | (with_reducible refine' l_twin_re_2 ?gF ?gy ?gk ?gx ?_) | (with_reducible refine' l_quotedata ?gF ?gy ?gk ?gx ?_) | (with_reducible refine' l_b1_set ?gF ?gy ?gk ?gx ?_) | (with_reducible refine' l_in_table_b1 ?gF ?gy ?gk ?gx ?_) | (with_reducible refine' l_b3_exceptions ?gF ?gy ?gk ?gx ?_) | (with_reducible refine' l_map_table_b3 ?gF ?gy ?gk ?gx ?_) | (with_reducible refine' l_law_piece ?gF ?gy ?gk ?gx ?_) | (with_reducible refine' l_law_rows ?gF ?gy ?gk ?gx ?_) | (with_reducible refine' l_law_in_fours ?gF ?gy ?gk ?gx ?_) | (with_reducible refine' l_law_prepares ?gF ?gy ?gk ?gx ?_) | (with_reducible refine' l_law_sends ?gF ?gy ?gk ?gx ?_) | (with_reducible refine' l_B64 ?gF ?gy ?gk ?gx ?_) | (with_reducible refine' l_CRLF ?gF ?gy ?gk ?gx ?_) | (with_reducible refine' l_type ?gF ?gy ?gk ?gx ?_) | (with_reducible refine' l_str ?gF ?gy ?gk ?gx ?_) | (with_reducible refine' l_bytes ?gF ?gy ?gk ?gx ?_) | (with_reducible refine' l_bytearray ?gF ?gy ?gk ?gx ?_) | (with_reducible refine' l_bool ?gF ?gy ?gk ?gx ?_) | (with_reducible refine' l_int ?gF ?gy ?gk ?gx ?_) | (with_reducible refine' l_float ?gF ?gy ?gk ?gx ?_) | (with_reducible refine' l_complex ?gF ?gy ?gk ?gx ?_) | (with_reducible refine' l_list ?gF ?gy ?gk ?gx ?_) | (with_reducible refine' l_tuple ?gF ?gy ?gk ?gx ?_) | (with_reducible refine' l_dict ?gF ?gy ?gk ?gx ?_) | (with_reducible refine' l_set ?gF ?gy ?gk ?gx ?_) | (with_reducible refine' l_frozenset ?gF ?gy ?gk ?gx ?_) | (with_reducible refine' l_range ?gF ?gy ?gk ?gx ?_) | (with_reducible refine' l_ord ?gF ?gy ?gk ?gx ?_) | (with_reducible refine' l_chr ?gF ?gy ?gk ?gx ?_) | (with_reducible refine' l_len ?gF ?gy ?gk ?gx ?_) | (with_reducible refine' l_isinstance ?gF ?gy ?gk ?gx ?_)); (case gF => assumption); (case gy => assumption); (case gk => with_unfolding_all exact rfl); (case gx => with_unfolding_all exact rfl))
  k_with "call type:type" => ((with_reducible refine' call_type_of (Tx := "bytes") (typeIs_bytes _ _ _) ?hnb ?_); (case hnb => decide))
  k_with "callWith ref" => (refine callWith_y ⟨_, _, (by with_unfolding_all exact rfl), (by with_unfolding_all exact rfl)⟩ ?_)
  k_with "And" => ((with_reducible show YP _ _ ∧ wpAny _ _ (call (Value.ref _) _ _) _ _ _); refine' And.intro ?gA ?_; (case gA => exact YP.fr (by assumption) (by assumption)))
  k_with "unpackItems ref" => ((refine' unpackItemsN_ ?gF ?gN ?gT ?gh ?gn ?_; (case gF => assumption); (case gN => assumption); (case gT => exact News.isTup (by assumption) (by k_mem)); (case gh => exact Room.handled (by assumption)); (case gn => with_unfolding_all exact rfl)); intro _ _ _)
  k_with "getMethod ref" => (refine' listMethod_K ?gN ?gm PySem.F.slot_list_append PySem.F.type_list_append ?_; (case gN => assumption); (case gm => k_mem))
  k_with "call builtin:list.append" => ((refine' append_K ?gF ?gN ?gU ?_ ?gz; (case gF => assumption); (case gN => assumption); (case gU => k_upd); (case gz => first | assumption | (simp only [Array.size_push, List.size_toArray, List.length_append, List.length_cons, List.length_nil, sizeLine_eq] at *; (first | lia | omega)) | size_fits)); intro _ _ _)
  k_with "call ref" => ((first
  | (with_reducible refine' useI ?gF ?gN (c_b64_value ?gy ?gr) ?_)
  | (with_reducible refine' useB ?gF ?gN (c_ascii_buffer ?gy ?gr) ?_)
  | (with_reducible refine' useB ?gF ?gN (c_buffer ?gy ?gr) ?_)
  | (with_reducible refine' useT ?gF ?gN (c_truth ?gy ?gr) ?_)); (case gF => assumption); (case gN => assumption); (case gy => exact YP.fr (by assumption) (by assumption)); (case gr => exact Room.le (by assumption) (by decide)); intros)
  k_with "MINE" => repeat' ((fail_if_success (with_reducible show InvEndN _ _ _ _ _ _ _)); (fail_if_success (with_reducible show WNext _ _ _ _ _ _ _ _ _ _ _)); (fail_if_success (with_reducible show wpAny _ _ (exec (Stmt.While _ _ _ _) _) _ _ _)); (fail_if_success (with_reducible show wpAny _ _ (exec (Stmt.For _ _ _ _ _) _) _ _ _)); walk1)
  k_with "END6" => ((rename News _ _ _ _ => nE); (try simp only [List.push_toArray] at nE); (refine kst_end2 (c := ⟨_, _, _, _, _, _⟩) (by assumption) nE (by with_unfolding_all rfl) (by kst_all) (by rfl) trivial (by (intro z hz1 hz2 _; have e0 := hz2 _ (List.Mem.head _); have e1 := hz2 _ (List.Mem.tail _ (List.Mem.head _)); dsimp only at e0 e1; simp [kstB, hz1, e0, e1])) ?_))
  k_with "WEND4" => ((rename News _ _ _ _ => nE); (try simp only [List.push_toArray] at nE); (refine WNext.intro (c := ⟨_, _, _, _⟩) (by assumption) nE (by with_unfolding_all rfl) (by kst_all) (by (intro z hz2 _; have e0 := hz2 _ (List.Mem.head _); dsimp only at e0; simp [kstB, e0])) ?_ ?_))
  trivial
theorem bindsLoad' {s : Shared} {fd : FuncData} {args : Args} {binds : List (Str × Value)} {a : Addr} {part : Option Value} {K : Obj → Sem (List (Str × Value))} {o : Obj} (ho : s.heap.get? a = some o)
    (h₁ : bindArgs fd args = .load a part K) (h₂ : K o = pure binds) : BindsTo s fd args binds := fun M A E Q hq => by
  rw [h₁]
  have e : (Sem.load a part K : Sem (List (Str × Value))) = (loadPart a part >>= K) := rfl
  rw [e]
  refine wpAny_bind (wpAny_loadPart ho ?_)
  rw [h₂]
  exact wpAny_pure hq
theorem noPass' {M : Model} {A : Around} {env : Env} : PassesOwn M A env (fun _ _ => False) := fun _ _ h => h.elim
theorem nab64 {z : Int} (h0 : 0 ≤ z) (h1 : z ≤ 65535) : z.natAbs < 2 ^ 64 := by
  obtain ⟨n, rfl⟩ := Int.eq_ofNat_of_zero_le h0
  exact Nat.lt_of_le_of_lt (Int.ofNat_le.mp h1) (by decide)
section
variable {w : World} {A : Around} {E : Value → Shared → Prop} {s : Shared}
noncomputable def b64c (i : Int) : Int := (KBw.bInts b64Bytes).getD i.toNat 0
noncomputable def emit : Nat → Int → Int → List Int → List Int × Int
  | 0, _, lb, out => (out, lb)
  | k + 1, lc, lb, out => if 6 ≤ lb then emit k lc (lb - 6) (out ++ [b64c (Builtin.bitAnd (lc.fdiv (2 ^ (lb - 6).toNat)) 63)]) else (out, lb)
theorem emit_stop {lc lb : Int} {out : List Int} (h : ¬ 6 ≤ lb) : ∀ k, emit k lc lb out = (out, lb)
  | 0 => rfl
  | k + 1 => by unfold emit; rw [if_neg h]
noncomputable abbrev Q4 := List Int × Int × Int
noncomputable def nextLc (lc b : Int) : Int := Builtin.bitAnd (Builtin.bitOr (lc * 2 ^ (8 : Int).toNat) b) 65535
noncomputable def b2aStep (p : Q4) (b : Int) : Q4 := ((emit 2 (nextLc p.2.1 b) (p.2.2 + 8) p.1).1, nextLc p.2.1 b, (emit 2 (nextLc p.2.1 b) (p.2.2 + 8) p.1).2)
noncomputable def b2aRun (ks : List Int) : Q4 := ks.foldl b2aStep ([], 0, 0)
theorem b2aRun_snoc (ks : List Int) (k : Int) : b2aRun (ks ++ [k]) = b2aStep (b2aRun ks) k := by simp [b2aRun]
noncomputable def b2aTail (p : Q4) : List Int :=
  if p.2.2 = 2 then p.1 ++ [b64c (Builtin.bitAnd p.2.1 3 * 2 ^ (4 : Int).toNat)] ++ [61] ++ [61] ++ [10]
  else if p.2.2 = 4 then p.1 ++ [b64c (Builtin.bitAnd p.2.1 15 * 2 ^ (2 : Int).toNat)] ++ [61] ++ [10]
  else p.1 ++ [10]
noncomputable def b2aOut (ks : List Int) : List Int := b2aTail (b2aRun ks)
structure S4 where
  vs : List Value
  n : Nat
  lc : Int
  lb : Int
  t1 : Tok
  t2 : Tok
inductive P4i (pre : List Int) (c : S4) : Prop
  | mk (out : List Int) : IntsAre c.vs out →
      b2aRun pre = (out, c.lc, c.lb) →
      out.length ≤ 2 * pre.length → P4i pre c
structure P4 (pre : List Int) (c : S4) : Prop where
  out : P4i pre c
  lb : c.lb = 0 ∨ c.lb = 2 ∨ c.lb = 4
  lo : 0 ≤ c.lc
  hi : c.lc ≤ 65535
structure S5 where
  vs : List Value
  n : Nat
  lb : Int
  t : Tok
inductive P5i (lc : Int) (tgt : List Int × Int) (B : Nat) (c : S5) : Prop
  | mk (out : List Int) (k : Nat) : IntsAre c.vs out →
      emit k lc c.lb out = tgt →
      c.lb ≤ 6 * (k : Int) + 5 →
      out.length + k ≤ B → P5i lc tgt B c
structure P5 (lc : Int) (tgt : List Int × Int) (B : Nat) (c : S5) : Prop where
  out : P5i lc tgt B c
  lb : 0 ≤ c.lb ∧ c.lb ≤ 20 ∧ (c.lb = 0 ∨ c.lb = 2 ∨ c.lb = 4 ∨ c.lb = 6 ∨ c.lb = 8 ∨ c.lb = 10 ∨ c.lb = 12)
theorem rules_Wk4_2 : True := by
  k_with "subscriptTail" => ((with_reducible refine' KBw.item_K (b := b64Bytes) rfl ?hf ?h0 ?h1 ?_ ?hs ?ht); (case hf => decide +kernel); (case h0 => first | exact (bitAnd_range _ (by decide)).1 | exact Int.mul_nonneg (bitAnd_range _ (by decide)).1 (by decide) | (first | lia | omega)); (case h1 => first | exact Int.lt_of_le_of_lt (bitAnd_range _ (by decide)).2 (by decide +kernel) | exact Int.lt_of_le_of_lt (Int.mul_le_mul_of_nonneg_right (bitAnd_range _ (by decide)).2 (by decide)) (by decide +kernel)); (case hs => with_unfolding_all exact rfl); (case ht => intro _; with_unfolding_all exact rfl); intro _ _ _ _)
  trivial
set_option maxHeartbeats 3000000 in
theorem c_b2a {b : Array UInt8} {t : Tok} (y : YP w s.heap) (hr : Room A 2) (hz : b.size ≤ 1048576) (hin : ∀ n ∈ b2aOut (KBw.bInts b), 0 ≤ n ∧ n < 256) :
    wpAny (model pw w) A (call (.ref 95) [.bytes b t]) (Ret s fun v _ => ∃ t, v = .bytes (byteArr (b2aOut (KBw.bInts b))) t) E s := by
  refine enterF (k := 1) (args := ⟨[.bytes b t], []⟩) (binds := [(Str.ofString "data", .bytes b t), (Str.ofString "newline", .bool true)]) "b2a_base64" "b2a_base64" (stAt 10) (.ref 88) _ hr y (by rfl) (by rfl) ⟨_, _, _, by rfl, by rfl, by rfl⟩ (bindsLoad' (y 88 (o88_2 w.params) (by rfl)) (by rfl) (by rfl)) (locs (by rfl)) ⟨by rfl, by rfl, by rfl, by rfl⟩ (fun h₁ r F N => ?_)
  walk_at "MINE"
  k_sweep
  rename Fr _ _ _ _ => F'
  rename News _ _ _ _ => N'
  rename_i D _ _ _ _
  refine For_invVF F' (by rfl) (by rfl) ?_ (by intro _; rfl) noPass'
  walk1
  refine KStb.kst_bytes (σ := S4) (fun c => [(D.objs.size, listOf c.vs.toArray c.n)]) (fun c => [(Str.ofString "leftchar", .int c.lc c.t1), (Str.ofString "leftbits", .int c.lb c.t2)]) (fun _ => True) [] P4 ⟨[], 0, 0, 0, ?t1, ?t2⟩ rfl rfl r.handled F' N' trivial ?kk ?kp ?turn ?done
  case kk => kst_all
  case kp => exact ⟨⟨[], .nil, rfl, Nat.le_refl _⟩, .inl rfl, Int.le_refl _, (by decide : (0 : Int) ≤ 65535)⟩
  case turn =>
    intro c pre post n tn u h tk own hks hlen hn0 hn1 hoff _ hP F'' N''
    clear F' N'
    obtain ⟨⟨o, ho, hrun, hol⟩, hlb, hl0, hl1⟩ := hP
    replace hoff : OwnOff own [D.objs.size] := hoff
    replace N'' : News s.heap s.heap.objs.size h ((D.objs.size, listOf c.vs.toArray c.n) :: own) := N''
    have hnab : c.lc.natAbs < 2 ^ 64 := nab64 hl0 hl1
    walk_at "MINE"
    k_sweep
    rename Fr _ _ _ _ => G
    rename News _ _ _ _ => NG
    refine while_kst (σ := S5) (fun c5 => (D.objs.size, listOf c5.vs.toArray c5.n) :: own) (fun c5 => [(Str.ofString "leftbits", .int c5.lb c5.t)]) [] (P5 (nextLc c.lc n) (emit 2 (nextLc c.lc n) (c.lb + 8) o) (o.length + 2)) (fun c5 => c5.lb.toNat) ⟨c.vs, c.n, c.lb + 8, ?tt⟩ G NG ?k2 ?p2 ?turn2
    case k2 => kst_all
    case p2 => exact ⟨⟨o, 2, ho, rfl, by dsimp only; (first | lia | omega), Nat.le_refl _⟩, by dsimp only; rcases hlb with e | e | e <;> (rw [e]; decide)⟩
    case turn2 =>
      intro c5 u5 h5 tk5 hP5 F5 N5
      clear G NG
      obtain ⟨⟨o5, k5, ho5, he5, hk5, hB5⟩, hb5⟩ := hP5
      replace N5 : News s.heap s.heap.objs.size h5 ((D.objs.size, listOf c5.vs.toArray c5.n) :: own) := N5
      have hvz : c5.vs.toArray.size ≤ sizeLine := by
        have e1 := ho5.length
        have e2 := KBw.ints_length b
        rw [List.size_toArray, sizeLine_eq]
        (first | lia | omega)
      walk_at "MINE"
      · dsimp only [WEnd]
        walk_at "WEND4"
        · refine ⟨?_, by dsimp only; rcases hb5 with ⟨_, _, e | e | e | e | e | e | e⟩ <;> first | (rw [e]; decide) | (exfalso; (first | lia | omega))⟩
          cases k5 with
          | zero => (first | lia | omega)
          | succ k5 =>
            refine ⟨_, k5, ho5.append (.cons _ _ .nil), ?_, by dsimp only; (first | lia | omega), by rw [List.length_append]; simp only [List.length_cons, List.length_nil]; (first | lia | omega)⟩
            rw [← he5]
            conv => rhs; unfold emit
            rw [if_pos (by (first | lia | omega))]
            rfl
        · dsimp only; (first | lia | omega)
      · walk_at "END6"
        refine ⟨⟨_, ho5, ?_, ?_⟩, by dsimp only; rcases hb5 with ⟨_, _, e | e | e | e | e | e | e⟩ <;> first | (rw [e]; decide) | (exfalso; (first | lia | omega)), (bitAnd_range _ (by decide)).1, (bitAnd_range _ (by decide)).2⟩
        · rw [b2aRun_snoc, hrun]
          have hs := emit_stop (lc := nextLc c.lc n) (lb := c5.lb) (out := o5) (by (first | lia | omega)) k5
          rw [he5] at hs
          simp only [b2aStep, hs]
          rfl
        · rw [List.length_append]; simp only [List.length_cons, List.length_nil]; (first | lia | omega)
  case done =>
    intro c u h tk hlen _ hP F'' N''
    clear F' N'
    obtain ⟨⟨o, ho, hrun, hol⟩, hlb, hl0, hl1⟩ := hP
    replace N'' : News s.heap s.heap.objs.size h [(D.objs.size, listOf c.vs.toArray c.n)] := N''
    have hvz : c.vs.toArray.size ≤ sizeLine := by
      have e1 := ho.length
      have e2 := KBw.ints_length b
      rw [List.size_toArray, sizeLine_eq]
      (first | lia | omega)
    have h3 := bitAnd_range c.lc (y := 3) (by decide)
    have h15 := bitAnd_range c.lc (y := 15) (by decide)
    have hol2 := KBw.ints_length b
    have hvl : c.vs.length ≤ 2097152 := by
      have e1 := ho.length
      (first | lia | omega)
    walk_at "MINE"
    all_goals (
      rename News _ _ _ _ => nE
      try simp only [List.push_toArray] at nE
      refine KBa.make_K (ns := b2aOut (KBw.bInts b)) (by assumption) nE r.handled ⟨_, (nE _ (.head _)).1, rfl, _, rfl⟩ ?_ hin ?_ fun h' t' k F3 N3 _ => done_at (P := fun v _ => ∃ t, v = .bytes (byteArr (b2aOut (KBw.bInts b))) t) F3 ⟨_, rfl⟩
      · simp only [b2aOut, b2aTail, hrun]
        first
          | (rw [if_pos (by assumption)]; exact (((ho.append (.cons _ _ .nil)).append (.cons _ _ .nil)).append (.cons _ _ .nil)).append (.cons _ _ .nil))
          | (rw [if_neg (by assumption), if_pos (by assumption)]; exact ((ho.append (.cons _ _ .nil)).append (.cons _ _ .nil)).append (.cons _ _ .nil))
          | (rw [if_neg (by assumption), if_neg (by assumption)]; exact ho.append (.cons _ _ .nil))
      · simp only [b2aOut, b2aTail, hrun]
        (repeat' split) <;> simp only [List.length_append, List.length_cons, List.length_nil] <;> (first | lia | omega))
end
end Mine
end P_Wk4
section P_PL1
open PySem PySem.W PySem.Calls PyProof.Rows
set_option linter.unusedVariables false
set_option maxRecDepth 100000
namespace Mine
theorem or_disj {x y : Int} {k : Nat} (hx : 0 ≤ x) (hy : 0 ≤ y) (h : y < 2 ^ k) : Builtin.bitOr (x * 2 ^ k) y = x * 2 ^ k + y := by
  rw [bitOr_and]
  have e : Builtin.bitAnd (x * 2 ^ k) y = 0 := by
    obtain ⟨a, rfl⟩ := Int.eq_ofNat_of_zero_le hx
    obtain ⟨b, rfl⟩ := Int.eq_ofNat_of_zero_le hy
    have h1 : ((a : Int) * 2 ^ k) = ((a * 2 ^ k : Nat) : Int) := by push_cast; rfl
    have h2 : b < 2 ^ k := by exact_mod_cast h
    rw [h1]
    unfold Builtin.bitAnd
    simp only [Int.natCast_nonneg, decide_true, Int.toNat_natCast]
    have : (a * 2 ^ k) &&& b = 0 := by
      apply Nat.eq_of_testBit_eq
      intro i
      rw [Nat.testBit_and, Nat.zero_testBit, Nat.mul_comm, Nat.testBit_two_pow_mul]
      by_cases hi : k ≤ i
      · rw [Nat.testBit_lt_two_pow (Nat.lt_of_lt_of_le h2 (Nat.pow_le_pow_right (by decide) hi)), Bool.and_false]
      · simp [hi]
    rw [this]; rfl
  rw [e]; (first | lia | omega)
noncomputable def foursI : List Int → List Int
  | a :: b :: c :: r => b64c (a / 4) :: b64c (a % 4 * 16 + b / 16) :: b64c (b % 16 * 4 + c / 64) :: b64c (c % 64) :: foursI r
  | [a, b] => [b64c (a / 4), b64c (a % 4 * 16 + b / 16), b64c (b % 16 * 4), 61]
  | [a] => [b64c (a / 4), b64c (a % 4 * 16), 61, 61]
  | [] => []
noncomputable def Oct (l : List Int) : Prop := ∀ k ∈ l, 0 ≤ k ∧ k < 256
theorem iv {x y k : Int} (h0 : 0 ≤ y) (h1 : y < k) : (x * k + y) / k = x ∧ (x * k + y) % k = y := by
  have hk : 0 < k := Int.lt_of_le_of_lt h0 h1
  constructor
  · rw [Int.add_comm, Int.add_mul_ediv_right _ _ (Int.ne_of_gt hk), Int.ediv_eq_zero_of_lt h0 h1, Int.zero_add]
  · rw [Int.add_comm, Int.add_mul_emod_self_right, Int.emod_eq_of_lt h0 h1]
theorem dg {a k m : Int} (hk : 0 < k) (h0 : 0 ≤ a) (h1 : a < m * k) : (0 ≤ a / k ∧ a / k < m) ∧ (0 ≤ a % k ∧ a % k < k) ∧ a = a / k * k + a % k :=
  ⟨⟨Int.ediv_nonneg h0 (Int.le_of_lt hk), Int.ediv_lt_of_lt_mul hk h1⟩, ⟨Int.emod_nonneg _ (Int.ne_of_gt hk), Int.emod_lt_of_pos _ hk⟩, (Int.mul_comm k (a / k) ▸ Int.mul_ediv_add_emod a k).symm⟩
theorem pr {x y k m n : Int} (hx : 0 ≤ x ∧ x < n) (hy : 0 ≤ y ∧ y < k) (hm : n * k = m) : 0 ≤ x * k + y ∧ x * k + y < m := by
  have hk : 0 ≤ k := Int.le_of_lt (Int.lt_of_le_of_lt hy.1 hy.2)
  refine ⟨Int.add_nonneg (Int.mul_nonneg hx.1 hk) hy.1, ?_⟩
  have h1 : (x + 1) * k ≤ n * k := Int.mul_le_mul_of_nonneg_right hx.2 hk
  rw [Int.add_mul, Int.one_mul] at h1
  exact hm ▸ Int.lt_of_lt_of_le (Int.add_lt_add_left hy.2 _) h1
/-- the three octets' parts -/
theorem d4 {a : Int} (h : 0 ≤ a ∧ a < 256) : (0 ≤ a / 4 ∧ a / 4 < 64) ∧ (0 ≤ a % 4 ∧ a % 4 < 4) ∧ a = a / 4 * 4 + a % 4 := dg (by decide) h.1 h.2
theorem d16 {a : Int} (h : 0 ≤ a ∧ a < 256) : (0 ≤ a / 16 ∧ a / 16 < 16) ∧ (0 ≤ a % 16 ∧ a % 16 < 16) ∧ a = a / 16 * 16 + a % 16 := dg (by decide) h.1 h.2
theorem d64 {a : Int} (h : 0 ≤ a ∧ a < 256) : (0 ≤ a / 64 ∧ a / 64 < 4) ∧ (0 ≤ a % 64 ∧ a % 64 < 64) ∧ a = a / 64 * 64 + a % 64 := dg (by decide) h.1 h.2
theorem s2 {a b : Int} (ha : 0 ≤ a ∧ a < 256) (hb : 0 ≤ b ∧ b < 256) : 0 ≤ a % 4 * 16 + b / 16 ∧ a % 4 * 16 + b / 16 < 64 := pr (d4 ha).2.1 (d16 hb).1 rfl
theorem s3 {b c : Int} (hb : 0 ≤ b ∧ b < 256) (hc : 0 ≤ c ∧ c < 256) : 0 ≤ b % 16 * 4 + c / 64 ∧ b % 16 * 4 + c / 64 < 64 := pr (d16 hb).2.1 (d64 hc).1 rfl
theorem s2' {a : Int} (ha : 0 ≤ a ∧ a < 256) : 0 ≤ a % 4 * 16 ∧ a % 4 * 16 < 64 := by have := s2 ha (b := 0) (by decide); rwa [show (0 : Int) / 16 = 0 from rfl, Int.add_zero] at this
theorem s3' {b : Int} (hb : 0 ≤ b ∧ b < 256) : 0 ≤ b % 16 * 4 ∧ b % 16 * 4 < 64 := by have := s3 hb (c := 0) (by decide); rwa [show (0 : Int) / 64 = 0 from rfl, Int.add_zero] at this
theorem nm {lc b : Int} (h0 : 0 ≤ lc) (hb : 0 ≤ b ∧ b < 256) : (lc * 256 + b) % 65536 = lc % 256 * 256 + b := by
  have e := (Int.mul_comm 256 (lc / 256) ▸ Int.mul_ediv_add_emod lc 256).symm
  have hr : 0 ≤ lc % 256 ∧ lc % 256 < 256 := ⟨Int.emod_nonneg _ (by decide), Int.emod_lt_of_pos _ (by decide)⟩
  have hp := pr (m := 65536) hr hb rfl
  generalize lc / 256 = q at e
  have e2 : lc * 256 + b = q * 65536 + (lc % 256 * 256 + b) := by generalize lc % 256 = r at *; (first | lia | omega)
  rw [e2]; exact (iv hp.1 hp.2).2
theorem bits8 {a b : Int} (ha : 0 ≤ a ∧ a < 256) (hb : 0 ≤ b ∧ b < 256) : (a * 256 + b) / 4 % 64 = b / 4 := by
  have h := d4 hb
  have e : a * 256 + b = (a * 64 + b / 4) * 4 + b % 4 := by have := h.2.2; generalize b / 4 = q at *; generalize b % 4 = r at *; (first | lia | omega)
  rw [e, (iv h.2.1.1 h.2.1.2).1]; exact (iv h.1.1 h.1.2).2
theorem bits10 {a b : Int} (ha : 0 ≤ a ∧ a < 256) (hb : 0 ≤ b ∧ b < 256) : (a * 256 + b) / 16 % 64 = a % 4 * 16 + b / 16 := by
  have h := d16 hb
  have k := d4 ha
  have p := s2 ha hb
  have e : a * 256 + b = (a / 4 * 64 + (a % 4 * 16 + b / 16)) * 16 + b % 16 := by
    have := h.2.2; have := k.2.2; clear p
    generalize b / 16 = q at *; generalize b % 16 = r at *; generalize a / 4 = x at *; generalize a % 4 = y at *; (first | lia | omega)
  rw [e, (iv h.2.1.1 h.2.1.2).1]; exact (iv p.1 p.2).2
theorem bits12 {a b : Int} (ha : 0 ≤ a ∧ a < 256) (hb : 0 ≤ b ∧ b < 256) : (a * 256 + b) / 64 % 64 = a % 16 * 4 + b / 64 ∧ (a * 256 + b) % 64 = b % 64 := by
  have h := d64 hb
  have k := d16 ha
  have p := s3 ha hb
  have e : a * 256 + b = (a / 16 * 64 + (a % 16 * 4 + b / 64)) * 64 + b % 64 := by
    have := h.2.2; have := k.2.2; clear p
    generalize b / 64 = q at *; generalize b % 64 = r at *; generalize a / 16 = x at *; generalize a % 16 = y at *; (first | lia | omega)
  have i := iv (x := a / 16 * 64 + (a % 16 * 4 + b / 64)) h.2.1.1 h.2.1.2
  rw [← e] at i
  exact ⟨by rw [i.1]; exact (iv p.1 p.2).2, i.2⟩
theorem low16 {a b : Int} (hb : 0 ≤ b ∧ b < 256) : (a * 256 + b) % 16 = b % 16 := by
  have h := d16 hb
  have e : a * 256 + b = (a * 16 + b / 16) * 16 + b % 16 := by have := h.2.2; generalize b / 16 = q at *; generalize b % 16 = r at *; (first | lia | omega)
  rw [e]; exact (iv h.2.1.1 h.2.1.2).2
theorem low4 {a b : Int} (hb : 0 ≤ b ∧ b < 256) : (a * 256 + b) % 4 = b % 4 := by
  have h := d4 hb
  have e : a * 256 + b = (a * 64 + b / 4) * 4 + b % 4 := by have := h.2.2; generalize b / 4 = q at *; generalize b % 4 = r at *; (first | lia | omega)
  rw [e]; exact (iv h.2.1.1 h.2.1.2).2
theorem byte_of {lc : Int} : 0 ≤ lc % 256 ∧ lc % 256 < 256 := ⟨Int.emod_nonneg _ (by decide), Int.emod_lt_of_pos _ (by decide)⟩
theorem low8 {a b : Int} (hb : 0 ≤ b ∧ b < 256) : (a * 256 + b) % 256 = b := (iv hb.1 hb.2).2
/-- A. b2a_base64 -/
theorem next_eq {lc b : Int} (h0 : 0 ≤ lc) (hb : 0 ≤ b ∧ b < 256) : nextLc lc b = (lc * 256 + b) % 65536 := by
  unfold nextLc
  rw [bitAnd_m16, show (8 : Int).toNat = 8 from rfl, or_disj h0 hb.1 (by have := hb.2; simpa using this)]
  rfl
theorem emit_go {k : Nat} {lc lb : Int} {out : List Int} (h : 6 ≤ lb) : emit (k + 1) lc lb out = emit k lc (lb - 6) (out ++ [b64c (lc / 2 ^ (lb - 6).toNat % 64)]) := by
  show (if 6 ≤ lb then _ else _) = _
  rw [if_pos h, bitAnd_m6, Int.fdiv_eq_ediv_of_nonneg _ (Int.le_of_lt (Int.pow_pos (by decide)))]
theorem step8 {lc b : Int} {out : List Int} (h0 : 0 ≤ lc) (hb : 0 ≤ b ∧ b < 256) : b2aStep (out, lc, 0) b = (out ++ [b64c (b / 4)], (lc * 256 + b) % 65536, 2) := by
  unfold b2aStep
  simp only [next_eq h0 hb]
  rw [show (0 : Int) + 8 = 8 from rfl, emit_go (by decide), emit_stop (by decide)]
  have e : (lc * 256 + b) % 65536 / 2 ^ ((8 : Int) - 6).toNat % 64 = b / 4 := by
    show (lc * 256 + b) % 65536 / 4 % 64 = b / 4
    rw [nm h0 hb]; exact bits8 byte_of hb
  rw [e]; rfl
theorem step10 {lc a b : Int} {out : List Int} (h0 : 0 ≤ lc) (ha : 0 ≤ a ∧ a < 256) (hb : 0 ≤ b ∧ b < 256) (hl : lc % 256 = a) : b2aStep (out, lc, 2) b = (out ++ [b64c (a % 4 * 16 + b / 16)], (lc * 256 + b) % 65536, 4) := by
  unfold b2aStep
  simp only [next_eq h0 hb]
  rw [show (2 : Int) + 8 = 10 from rfl, emit_go (by decide), emit_stop (by decide)]
  have e : (lc * 256 + b) % 65536 / 2 ^ ((10 : Int) - 6).toNat % 64 = a % 4 * 16 + b / 16 := by
    show (lc * 256 + b) % 65536 / 16 % 64 = _
    rw [nm h0 hb, hl]; exact bits10 ha hb
  rw [e]; rfl
theorem step12 {lc a b : Int} {out : List Int} (h0 : 0 ≤ lc) (ha : 0 ≤ a ∧ a < 256) (hb : 0 ≤ b ∧ b < 256) (hl : lc % 256 = a) : b2aStep (out, lc, 4) b = (out ++ [b64c (a % 16 * 4 + b / 64)] ++ [b64c (b % 64)], (lc * 256 + b) % 65536, 0) := by
  unfold b2aStep
  simp only [next_eq h0 hb]
  rw [show (4 : Int) + 8 = 12 from rfl, emit_go (by decide), emit_go (by decide)]
  have e : (lc * 256 + b) % 65536 / 2 ^ ((12 : Int) - 6).toNat % 64 = a % 16 * 4 + b / 64 := by
    show (lc * 256 + b) % 65536 / 64 % 64 = _
    rw [nm h0 hb, hl]; exact (bits12 ha hb).1
  have e2 : (lc * 256 + b) % 65536 / 2 ^ ((12 : Int) - 6 - 6).toNat % 64 = b % 64 := by
    show (lc * 256 + b) % 65536 / 1 % 64 = _
    rw [nm h0 hb, hl, Int.ediv_one]; exact (bits12 ha hb).2
  rw [e, e2]; rfl
theorem nxt {lc b : Int} (h0 : 0 ≤ lc) (hb : 0 ≤ b ∧ b < 256) : 0 ≤ (lc * 256 + b) % 65536 ∧ (lc * 256 + b) % 65536 % 256 = b := by
  rw [nm h0 hb]
  exact ⟨(pr byte_of hb rfl).1, low8 hb⟩
theorem b2a_go : ∀ (l : List Int) (out : List Int) (lc : Int), Oct l → 0 ≤ lc → b2aTail (l.foldl b2aStep (out, lc, 0)) = out ++ foursI l ++ [10]
  | a :: b :: c :: r, out, lc, ho, h0 => by
    have ha := ho a (.head _)
    have hb := ho b (.tail _ (.head _))
    have hc := ho c (.tail _ (.tail _ (.head _)))
    simp only [List.foldl_cons]
    have n1 := nxt (lc := lc) h0 ha
    have n2 := nxt n1.1 hb
    have n3 := nxt n2.1 hc
    rw [step8 h0 ha, step10 (a := a) n1.1 ha hb n1.2, step12 (a := b) n2.1 hb hc n2.2, b2a_go r _ _ (fun k hk => ho k (.tail _ (.tail _ (.tail _ hk)))) n3.1]
    simp [foursI]
  | [a, b], out, lc, ho, h0 => by
    have ha := ho a (.head _)
    have hb := ho b (.tail _ (.head _))
    simp only [List.foldl_cons, List.foldl_nil]
    have n1 := nxt (lc := lc) h0 ha
    rw [step8 h0 ha, step10 (a := a) n1.1 ha hb n1.2]
    unfold b2aTail
    rw [if_neg (by dsimp only; decide), if_pos rfl]
    dsimp only
    rw [bitAnd_m4]
    have e : ((lc * 256 + a) % 65536 * 256 + b) % 65536 % 16 * 2 ^ (2 : Int).toNat = b % 16 * 4 := by
      show _ % 16 * 4 = _
      rw [nm n1.1 hb, low16 hb]
    rw [e]; simp [foursI]
  | [a], out, lc, ho, h0 => by
    have ha := ho a (.head _)
    simp only [List.foldl_cons, List.foldl_nil]
    rw [step8 h0 ha]
    unfold b2aTail
    rw [if_pos rfl]
    dsimp only
    rw [bitAnd_m2]
    have e : (lc * 256 + a) % 65536 % 4 * 2 ^ (4 : Int).toNat = a % 4 * 16 := by
      show _ % 4 * 16 = _
      rw [nm h0 ha, low4 ha]
    rw [e]; simp [foursI]
  | [], out, lc, ho, h0 => by
    unfold b2aTail
    simp [foursI]
theorem b2a_eq {l : List Int} (h : Oct l) : b2aOut l = foursI l ++ [10] := by
  have := b2a_go l [] 0 h (Int.le_refl _)
  rw [List.nil_append] at this
  exact this
/-- B. -/
theorem foursI_app : ∀ (l r : List Int), l.length % 3 = 0 → foursI (l ++ r) = foursI l ++ foursI r
  | a :: b :: c :: l, r, h => by
    simp only [List.cons_append, foursI]
    rw [foursI_app l r (by simp only [List.length_cons] at h; (first | lia | omega))]
  | [a, b], r, h => by simp at h
  | [a], r, h => by simp at h
  | [], r, h => rfl
/-- D. a2b_base64 -/
theorem val_of : ∀ n : Fin 64, b64v (b64c (n.val : Int)) = (n.val : Int) ∧ b64c (n.val : Int) ≠ 61 ∧ 0 ≤ b64c (n.val : Int) ∧ b64c (n.val : Int) < 128 ∧ Txt.item sixtyfour (n.val : Int) = ⟨#[(b64c (n.val : Int)).toNat]⟩ := by decide +kernel
theorem val64 {i : Int} (h0 : 0 ≤ i) (h1 : i < 64) : b64v (b64c i) = i ∧ b64c i ≠ 61 ∧ 0 ≤ b64c i ∧ b64c i < 128 ∧ Txt.item sixtyfour i = ⟨#[(b64c i).toNat]⟩ := by
  have := val_of ⟨i.toNat, by (first | lia | omega)⟩
  have e : ((i.toNat : Nat) : Int) = i := Int.toNat_of_nonneg h0
  simp only [e] at this
  exact this
theorem a_step0 {out : List Int} {left pads i : Int} (h0 : 0 ≤ i) (h1 : i < 64) : a2bStep (out, 0, left, pads) (b64c i) = (out, 1, i, 0) := by
  obtain ⟨e, n, _, _, _⟩ := val64 h0 h1
  unfold a2bStep
  rw [if_neg n, e, if_neg (by (first | lia | omega)), if_pos rfl]
theorem a_step1 {out : List Int} {left pads i : Int} (hl : 0 ≤ left ∧ left < 64) (h0 : 0 ≤ i) (h1 : i < 64) : a2bStep (out, 1, left, pads) (b64c i) = (out ++ [left * 4 + i / 16], 2, i % 16, 0) := by
  obtain ⟨e, n, _, _, _⟩ := val64 h0 h1
  unfold a2bStep
  rw [if_neg n, e, if_neg (by (first | lia | omega)), if_neg (by dsimp only; decide), if_pos rfl]
  dsimp only
  rw [show (2 : Int).toNat = 2 from rfl, show (4 : Int).toNat = 4 from rfl, Int.fdiv_eq_ediv_of_nonneg _ (by decide), bitAnd_m4, or_disj hl.1 (by (first | lia | omega)) (by (first | lia | omega))]
  rfl
theorem a_step2 {out : List Int} {left pads i : Int} (hl : 0 ≤ left ∧ left < 64) (h0 : 0 ≤ i) (h1 : i < 64) : a2bStep (out, 2, left, pads) (b64c i) = (out ++ [left * 16 + i / 4], 3, i % 4, 0) := by
  obtain ⟨e, n, _, _, _⟩ := val64 h0 h1
  unfold a2bStep
  rw [if_neg n, e, if_neg (by (first | lia | omega)), if_neg (by dsimp only; decide), if_neg (by dsimp only; decide), if_pos rfl]
  dsimp only
  rw [show (2 : Int).toNat = 2 from rfl, show (4 : Int).toNat = 4 from rfl, Int.fdiv_eq_ediv_of_nonneg _ (by decide), bitAnd_m2, or_disj hl.1 (by (first | lia | omega)) (by (first | lia | omega))]
  rfl
theorem a_step3 {out : List Int} {left pads i : Int} (hl : 0 ≤ left ∧ left < 64) (h0 : 0 ≤ i) (h1 : i < 64) : a2bStep (out, 3, left, pads) (b64c i) = (out ++ [left * 64 + i], 0, 0, 0) := by
  obtain ⟨e, n, _, _, _⟩ := val64 h0 h1
  unfold a2bStep
  rw [if_neg n, e, if_neg (by (first | lia | omega)), if_neg (by dsimp only; decide), if_neg (by dsimp only; decide), if_neg (by dsimp only; decide)]
  dsimp only
  rw [show (6 : Int).toNat = 6 from rfl, or_disj hl.1 (by (first | lia | omega)) (by (first | lia | omega))]
  rfl
theorem a_pad {out : List Int} {qp left pads : Int} : a2bStep (out, qp, left, pads) 61 = (out, qp, left, pads + 1) := by
  unfold a2bStep
  rw [if_pos rfl]
theorem up {x m : Int} (h : 0 ≤ x ∧ x < m) (hm : m ≤ 64) : 0 ≤ x ∧ x < 64 := ⟨h.1, Int.lt_of_lt_of_le h.2 hm⟩
theorem a2b_go : ∀ (l : List Int) (out : List Int), Oct l → ∃ qp left pads, (foursI l).foldl a2bStep (out, 0, 0, 0) = (out ++ l, qp, left, pads) ∧ qp ≠ 1 ∧ (qp = 0 ∨ 4 ≤ qp + pads)
  | a :: b :: c :: r, out, ho => by
    have ha := ho a (.head _)
    have hb := ho b (.tail _ (.head _))
    have hc := ho c (.tail _ (.tail _ (.head _)))
    simp only [foursI, List.foldl_cons]
    have i2 := iv (x := a % 4) (d16 hb).1.1 (d16 hb).1.2
    have i3 := iv (x := b % 16) (d64 hc).1.1 (d64 hc).1.2
    have w2 : 0 ≤ (a % 4 * 16 + b / 16) % 16 ∧ (a % 4 * 16 + b / 16) % 16 < 64 := by rw [i2.2]; exact up (d16 hb).1 (by decide)
    have w3 : 0 ≤ (b % 16 * 4 + c / 64) % 4 ∧ (b % 16 * 4 + c / 64) % 4 < 64 := by rw [i3.2]; exact up (d64 hc).1 (by decide)
    rw [a_step0 (d4 ha).1.1 (d4 ha).1.2, a_step1 (d4 ha).1 (s2 ha hb).1 (s2 ha hb).2, a_step2 w2 (s3 hb hc).1 (s3 hb hc).2, a_step3 w3 (d64 hc).2.1.1 (d64 hc).2.1.2]
    rw [i2.1, i2.2, i3.1, i3.2, ← (d4 ha).2.2, ← (d16 hb).2.2, ← (d64 hc).2.2]
    obtain ⟨qp, left, pads, h1, h2, h3⟩ := a2b_go r (out ++ [a] ++ [b] ++ [c]) (fun k hk => ho k (.tail _ (.tail _ (.tail _ hk))))
    exact ⟨qp, left, pads, by rw [h1]; simp, h2, h3⟩
  | [a, b], out, ho => by
    have ha := ho a (.head _)
    have hb := ho b (.tail _ (.head _))
    simp only [foursI, List.foldl_cons, List.foldl_nil]
    have i2 := iv (x := a % 4) (d16 hb).1.1 (d16 hb).1.2
    have w2 : 0 ≤ (a % 4 * 16 + b / 16) % 16 ∧ (a % 4 * 16 + b / 16) % 16 < 64 := by rw [i2.2]; exact up (d16 hb).1 (by decide)
    rw [a_step0 (d4 ha).1.1 (d4 ha).1.2, a_step1 (d4 ha).1 (s2 ha hb).1 (s2 ha hb).2, a_step2 w2 (s3' hb).1 (s3' hb).2, a_pad]
    rw [i2.1, i2.2, Int.mul_ediv_cancel _ (by decide), ← (d4 ha).2.2, ← (d16 hb).2.2]
    exact ⟨3, _, 1, by rw [List.append_assoc]; rfl, by decide, by decide⟩
  | [a], out, ho => by
    have ha := ho a (.head _)
    simp only [foursI, List.foldl_cons, List.foldl_nil]
    rw [a_step0 (d4 ha).1.1 (d4 ha).1.2, a_step1 (d4 ha).1 (s2' ha).1 (s2' ha).2, a_pad, a_pad]
    rw [Int.mul_ediv_cancel _ (by decide), ← (d4 ha).2.2]
    exact ⟨2, _, 2, rfl, by decide, by decide⟩
  | [], out, ho => ⟨0, 0, 0, by simp [foursI], by decide, by decide⟩
theorem foursI_in : ∀ (l : List Int), Oct l → ∀ n ∈ foursI l, 0 ≤ n ∧ n < 128
  | a :: b :: c :: r, ho, n, hn => by
    have ha := ho a (.head _)
    have hb := ho b (.tail _ (.head _))
    have hc := ho c (.tail _ (.tail _ (.head _)))
    simp only [foursI, List.mem_cons] at hn
    rcases hn with rfl | rfl | rfl | rfl | hn
    · have := val64 (d4 ha).1.1 (d4 ha).1.2; exact ⟨this.2.2.1, this.2.2.2.1⟩
    · have := val64 (s2 ha hb).1 (s2 ha hb).2; exact ⟨this.2.2.1, this.2.2.2.1⟩
    · have := val64 (s3 hb hc).1 (s3 hb hc).2; exact ⟨this.2.2.1, this.2.2.2.1⟩
    · have := val64 (d64 hc).2.1.1 (d64 hc).2.1.2; exact ⟨this.2.2.1, this.2.2.2.1⟩
    · exact foursI_in r (fun k hk => ho k (.tail _ (.tail _ (.tail _ hk)))) n hn
  | [a, b], ho, n, hn => by
    have ha := ho a (.head _)
    have hb := ho b (.tail _ (.head _))
    simp only [foursI, List.mem_cons, List.not_mem_nil, or_false] at hn
    rcases hn with rfl | rfl | rfl | rfl
    · have := val64 (d4 ha).1.1 (d4 ha).1.2; exact ⟨this.2.2.1, this.2.2.2.1⟩
    · have := val64 (s2 ha hb).1 (s2 ha hb).2; exact ⟨this.2.2.1, this.2.2.2.1⟩
    · have := val64 (s3' hb).1 (s3' hb).2; exact ⟨this.2.2.1, this.2.2.2.1⟩
    · decide
  | [a], ho, n, hn => by
    have ha := ho a (.head _)
    simp only [foursI, List.mem_cons, List.not_mem_nil, or_false] at hn
    rcases hn with rfl | rfl | rfl | rfl
    · have := val64 (d4 ha).1.1 (d4 ha).1.2; exact ⟨this.2.2.1, this.2.2.2.1⟩
    · have := val64 (s2' ha).1 (s2' ha).2; exact ⟨this.2.2.1, this.2.2.2.1⟩
    · decide
    · decide
  | [], ho, n, hn => by simp [foursI] at hn
/-- C. _law_in_fours -/
theorem cut4 (w x y z : Nat) : Txt.slice (⟨#[w]⟩ ++ ⟨#[x]⟩ ++ ⟨#[y]⟩ ++ ⟨#[z]⟩ : Str) none (some 4) = ⟨#[w, x, y, z]⟩ := by rfl
theorem cut3 (w x y z : Nat) : Txt.slice (⟨#[w]⟩ ++ ⟨#[x]⟩ ++ ⟨#[y]⟩ ++ ⟨#[z]⟩ : Str) none (some 3) = ⟨#[w, x, y]⟩ := by rfl
theorem cut2 (w x y z : Nat) : Txt.slice (⟨#[w]⟩ ++ ⟨#[x]⟩ ++ ⟨#[y]⟩ ++ ⟨#[z]⟩ : Str) none (some 2) = ⟨#[w, x]⟩ := by rfl
theorem num4 {a b c : Int} (ha : 0 ≤ a ∧ a < 256) (hb : 0 ≤ b ∧ b < 256) (hc : 0 ≤ c ∧ c < 256) :
    (a * 65536 + b * 256 + c) / 262144 = a / 4 ∧ (a * 65536 + b * 256 + c) / 4096 % 64 = a % 4 * 16 + b / 16 ∧ (a * 65536 + b * 256 + c) / 64 % 64 = b % 16 * 4 + c / 64 ∧ (a * 65536 + b * 256 + c) % 64 = c % 64 := by
  have k4 := d4 ha
  have k16 := d16 hb
  have k64 := d64 hc
  have p2 := s2 ha hb
  have p3 := s3 hb hc
  have l12 := pr (m := 4096) p3 k64.2.1 rfl
  have l18 := pr (m := 262144) p2 l12 rfl
  have e1 : a * 65536 + b * 256 + c = a / 4 * 262144 + ((a % 4 * 16 + b / 16) * 4096 + ((b % 16 * 4 + c / 64) * 64 + c % 64)) := by
    have := k4.2.2; have := k16.2.2; have := k64.2.2; clear p2 p3 l12 l18
    generalize a / 4 = a1 at *; generalize a % 4 = a0 at *; generalize b / 16 = b1 at *; generalize b % 16 = b0 at *; generalize c / 64 = c1 at *; generalize c % 64 = c0 at *; (first | lia | omega)
  have e2 : a * 65536 + b * 256 + c = (a / 4 * 64 + (a % 4 * 16 + b / 16)) * 4096 + ((b % 16 * 4 + c / 64) * 64 + c % 64) := by
    rw [e1]; generalize a % 4 * 16 + b / 16 = x; (first | lia | omega)
  have e3 : a * 65536 + b * 256 + c = ((a / 4 * 64 + (a % 4 * 16 + b / 16)) * 64 + (b % 16 * 4 + c / 64)) * 64 + c % 64 := by
    rw [e2]; generalize a / 4 * 64 + (a % 4 * 16 + b / 16) = x; generalize b % 16 * 4 + c / 64 = y; (first | lia | omega)
  refine ⟨by rw [e1]; exact (iv l18.1 l18.2).1, ?_, ?_, by rw [e3]; exact (iv k64.2.1.1 k64.2.1.2).2⟩
  · rw [e2, (iv l12.1 l12.2).1]; exact (iv p2.1 p2.2).2
  · rw [e3, (iv k64.2.1.1 k64.2.1.2).1]; exact (iv p3.1 p3.2).2
theorem fourOf_eq (l : List Int) (ho : Oct l) (h1 : 1 ≤ l.length) (h3 : l.length ≤ 3) : (fourOf l).cps.toList = (foursI l).map Int.toNat := by
  have num : ∀ {k : Int}, 0 ≤ k ∧ k < 64 → Txt.item sixtyfour k = ⟨#[(b64c k).toNat]⟩ := fun h => (val64 h.1 h.2).2.2.2.2
  have oz : (0 : Int) ≤ 0 ∧ (0 : Int) < 256 := by decide
  cases l with
  | nil => exact absurd h1 (by decide)
  | cons a l =>
  have ha := ho a (.head _)
  cases l with
  | nil =>
    have n := num4 ha oz oz
    have e : numOf [a] * 256 ^ (3 - (([a] : List Int).length : Int)).toNat = a * 65536 + 0 * 256 + 0 := by
      show (0 * 256 + a) * 65536 = _; (first | lia | omega)
    unfold fourOf
    rw [e, n.1, n.2.1, n.2.2.1, n.2.2.2, num (d4 ha).1, num (s2 ha oz), num (s3 oz oz), num (d64 oz).2.1]
    show ((Txt.slice _ none (some 2)) ++ Txt.mul (Str.ofString "=") 2 : Str).cps.toList = _
    rw [cut2, show (0 : Int) / 16 = 0 from rfl, Int.add_zero]
    rfl
  | cons b l =>
  have hb := ho b (.tail _ (.head _))
  cases l with
  | nil =>
    have n := num4 ha hb oz
    have e : numOf [a, b] * 256 ^ (3 - (([a, b] : List Int).length : Int)).toNat = a * 65536 + b * 256 + 0 := by
      show ((0 * 256 + a) * 256 + b) * 256 = _; (first | lia | omega)
    unfold fourOf
    rw [e, n.1, n.2.1, n.2.2.1, n.2.2.2, num (d4 ha).1, num (s2 ha hb), num (s3 hb oz), num (d64 oz).2.1]
    show ((Txt.slice _ none (some 3)) ++ Txt.mul (Str.ofString "=") 1 : Str).cps.toList = _
    rw [cut3, show (0 : Int) / 64 = 0 from rfl, Int.add_zero]
    rfl
  | cons c l =>
  have hc := ho c (.tail _ (.tail _ (.head _)))
  cases l with
  | nil =>
    have n := num4 ha hb hc
    have e : numOf [a, b, c] * 256 ^ (3 - (([a, b, c] : List Int).length : Int)).toNat = a * 65536 + b * 256 + c := by
      show (((0 * 256 + a) * 256 + b) * 256 + c) * 1 = _; (first | lia | omega)
    unfold fourOf
    rw [e, n.1, n.2.1, n.2.2.1, n.2.2.2, num (d4 ha).1, num (s2 ha hb), num (s3 hb hc), num (d64 hc).2.1]
    show ((Txt.slice _ none (some 4)) ++ Txt.mul (Str.ofString "=") 0 : Str).cps.toList = _
    rw [cut4]
    rfl
  | cons d l => exact absurd h3 (by simp only [List.length_cons]; (first | lia | omega))
theorem strApp_toList (x y : Str) : (x ++ y : Str).cps.toList = x.cps.toList ++ y.cps.toList := by
  show (x.cps ++ y.cps).toList = _
  simp
theorem foursW_eq (l : List Int) (ho : Oct l) : ∀ i, 3 * i < l.length + 3 → (foursW l i).cps.toList = (foursI (l.take (3 * i))).map Int.toNat
  | 0, _ => by simp [foursI]; rfl
  | i + 1, h => by
    show (foursW l i ++ fourOf (blk l i) : Str).cps.toList = _
    have hb : 1 ≤ (blk l i).length ∧ (blk l i).length ≤ 3 := by
      simp only [blk, List.length_take, List.length_drop]; (first | lia | omega)
    have hob : Oct (blk l i) := fun k hk => ho k (List.mem_of_mem_drop (List.mem_of_mem_take hk))
    have e : l.take (3 * (i + 1)) = l.take (3 * i) ++ blk l i := by
      unfold blk
      rw [show 3 * (i + 1) = 3 * i + 3 by (first | lia | omega), List.take_add]
    rw [strApp_toList, foursW_eq l ho i (by (first | lia | omega)), fourOf_eq _ hob hb.1 hb.2, e, foursI_app _ _ (by rw [List.length_take]; (first | lia | omega)), List.map_append]
theorem encB_toList (c : Builtin._codecs.TextCodec) (s : Str) : (encB c s).toList = s.cps.toList.flatMap c.bytesOf := by
  unfold encB
  rw [← Array.foldl_toList]
  suffices h : ∀ (l : List Nat) (acc : Array UInt8), (l.foldl (fun acc y => acc ++ (c.bytesOf y).toArray) acc).toList = acc.toList ++ l.flatMap c.bytesOf by
    simpa using h s.cps.toList #[]
  intro l
  induction l with
  | nil => intro acc; simp
  | cons x l ih => intro acc; rw [List.foldl_cons, ih]; simp
theorem fours_all {l : List Int} (ho : Oct l) : (foursW l ((l.length + 2) / 3)).cps.toList = (foursI l).map Int.toNat := by
  rw [foursW_eq l ho _ (by (first | lia | omega)), List.take_of_length_le (by (first | lia | omega))]
theorem fours_ascii {l : List Int} (ho : Oct l) : ∀ y ∈ (foursW l ((l.length + 2) / 3)).cps.toList, Builtin._codecs.asciiCodec.bad y = false := by
  intro y hy
  rw [fours_all ho] at hy
  obtain ⟨n, hn, rfl⟩ := List.mem_map.mp hy
  have := foursI_in l ho n hn
  show decide (n.toNat ≥ 128) = false
  rw [decide_eq_false (by (first | lia | omega))]
theorem fours_enc {l : List Int} (ho : Oct l) : encB Builtin._codecs.asciiCodec (foursW l ((l.length + 2) / 3)) = byteArr (foursI l) := by
  apply Array.toList_inj.mp
  rw [encB_toList, fours_all ho]
  unfold byteArr
  show List.flatMap (fun c : Nat => [c.toUInt8]) _ = (List.map (fun n : Int => n.toNat.toUInt8) (foursI l)).toArray.toList
  rw [List.flatMap_map, List.toList_toArray]
  generalize foursI l = m
  induction m with
  | nil => rfl
  | cons x m ih => rw [List.flatMap_cons, ih]; rfl
theorem foursI_len : ∀ l : List Int, (foursI l).length = 4 * ((l.length + 2) / 3)
  | a :: b :: c :: r => by simp only [foursI, List.length_cons, foursI_len r]; (first | lia | omega)
  | [a, b] => by simp [foursI]
  | [a] => by simp [foursI]
  | [] => rfl
theorem bInts_oct (b : Array UInt8) : Oct (KBw.bInts b) := fun _ h => KBw.ints_in h
theorem byteArr_ints {l : List Int} (h : Oct l) : KBw.bInts (byteArr l) = l := by
  unfold KBw.bInts byteArr
  rw [List.toList_toArray, List.map_map]
  conv => rhs; rw [← List.map_id l]
  refine List.map_congr_left fun k hk => ?_
  have := h k hk
  show (((k.toNat.toUInt8).toNat : Nat) : Int) = k
  simp
  (first | lia | omega)
theorem ints_byteArr (b : Array UInt8) : byteArr (KBw.bInts b) = b := by
  apply Array.toList_inj.mp
  unfold KBw.bInts byteArr
  rw [List.map_map]
  conv => rhs; rw [← List.map_id b.toList]
  refine List.map_congr_left fun k hk => ?_
  simp
end Mine
end P_PL1
section P_WkB
open PySem PySem.W PySem.Calls PyProof.Rows
set_option linter.unusedVariables false
set_option maxRecDepth 100000
namespace Mine
theorem rules_WkB_1 : True := by
  k_with_none
  k_with "eval Name" => ((with_reducible refine' ld ?gF ?gv ?_ ?gk ?gl ?gd); (case gF => assumption); (case gl => with_unfolding_all exact rfl); (case gv => with_unfolding_all exact rfl); (case gk => with_unfolding_all exact rfl); (case gd => with_unfolding_all exact rfl))
  k_with "eval Name" => ((first | (with_reducible refine' l_ascii_buffer ?gF ?gy ?gk ?gx ?_) | (with_reducible refine' l_buffer ?gF ?gy ?gk ?gx ?_) | (with_reducible refine' l_truth ?gF ?gy ?gk ?gx ?_) | (with_reducible refine' l_b64_value ?gF ?gy ?gk ?gx ?_) | (with_reducible refine' l_a2b_base64 ?gF ?gy ?gk ?gx ?_) | (with_reducible refine' l_b2a_base64 ?gF ?gy ?gk ?gx ?_) | (with_reducible refine' l_Authenticator ?gF ?gy ?gk ?gx ?_) | (with_reducible refine' l_twin_re_1 ?gF ?gy ?gk ?gx ?_) | (with_reducible refine' l_twin_re_2 ?gF ?gy ?gk ?gx ?_) | (with_reducible refine' l_quotedata ?gF ?gy ?gk ?gx ?_) | (with_reducible refine' l_b1_set ?gF ?gy ?gk ?gx ?_) | (with_reducible refine' l_in_table_b1 ?gF ?gy ?gk ?gx ?_) | (with_reducible refine' l_b3_exceptions ?gF ?gy ?gk ?gx ?_) | (with_reducible refine' l_map_table_b3 ?gF ?gy ?gk ?gx ?_) | (with_reducible refine' l_law_piece ?gF ?gy ?gk ?gx ?_) | (with_reducible refine' l_law_rows ?gF ?gy ?gk ?gx ?_) | (with_reducible refine' l_law_in_fours ?gF ?gy ?gk ?gx ?_) | (with_reducible refine' l_law_prepares ?gF ?gy ?gk ?gx ?_) | (with_reducible refine' l_law_sends ?gF ?gy ?gk ?gx ?_) | (with_reducible refine' l_B64 ?gF ?gy ?gk ?gx ?_) | (with_reducible refine' l_CRLF ?gF ?gy ?gk ?gx ?_) | (with_reducible refine' l_type ?gF ?gy ?gk ?gx ?_) | (with_reducible refine' l_str ?gF ?gy ?gk ?gx ?_) | (with_reducible refine' l_bytes ?gF ?gy ?gk ?gx ?_) | (with_reducible refine' l_bytearray ?gF ?gy ?gk ?gx ?_) | (with_reducible refine' l_bool ?gF ?gy ?gk ?gx ?_) | (with_reducible refine' l_int ?gF ?gy ?gk ?gx ?_) | (with_reducible refine' l_float ?gF ?gy ?gk ?gx ?_) | (with_reducible refine' l_complex ?gF ?gy ?gk ?gx ?_) | (with_reducible refine' l_list ?gF ?gy ?gk ?gx ?_) | (with_reducible refine' l_tuple ?gF ?gy ?gk ?gx ?_) | (with_reducible refine' l_dict ?gF ?gy ?gk ?gx ?_) | (with_reducible refine' l_set ?gF ?gy ?gk ?gx ?_) | (with_reducible refine' l_frozenset ?gF ?gy ?gk ?gx ?_) | (with_reducible refine' l_range ?gF ?gy ?gk ?gx ?_) | (with_reducible refine' l_ord ?gF ?gy ?gk ?gx ?_) | (with_reducible refine' l_chr ?gF ?gy ?gk ?gx ?_) | (with_reducible refine' l_len ?gF ?gy ?gk ?gx ?_) | (with_reducible refine' l_isinstance ?gF ?gy ?gk ?gx ?_)); (case gF => assumption); (case gy => assumption); (case gk => with_unfolding_all exact rfl); (case gx => with_unfolding_all exact rfl))
  k_with "call type:type" => ((with_reducible refine' call_type_of (Tx := "bytes") (typeIs_bytes _ _ _) ?hnb ?_); (case hnb => decide))
  k_with "callWith ref" => (refine callWith_y ⟨_, _, (by with_unfolding_all exact rfl), (by with_unfolding_all exact rfl)⟩ ?_)
  k_with "And" => ((with_reducible show YP _ _ ∧ wpAny _ _ (call (Value.ref _) _ _) _ _ _); refine' And.intro ?gA ?_; (case gA => exact YP.fr (by assumption) (by assumption)))
  k_with "unpackItems ref" => ((refine' unpackItemsN_ ?gF ?gN ?gT ?gh ?gn ?_; (case gF => assumption); (case gN => assumption); (case gT => exact News.isTup (by assumption) (by k_mem)); (case gh => exact Room.handled (by assumption)); (case gn => with_unfolding_all exact rfl)); intro _ _ _)
  k_with "getMethod ref" => (refine' listMethod_K ?gN ?gm PySem.F.slot_list_append PySem.F.type_list_append ?_; (case gN => assumption); (case gm => k_mem))
  k_with "call builtin:list.append" => ((refine' append_K ?gF ?gN ?gU ?_ ?gz; (case gF => assumption); (case gN => assumption); (case gU => k_upd); (case gz => first | assumption | (simp only [Array.size_push, List.size_toArray, List.length_append, List.length_cons, List.length_nil, sizeLine_eq] at *; (first | lia | omega)) | size_fits)); intro _ _ _)
  k_with "call ref" => ((first
  | (with_reducible refine' useI ?gF ?gN (c_b64_value ?gy ?gr) ?_)
  | (with_reducible refine' useB ?gF ?gN (c_ascii_buffer ?gy ?gr) ?_)
  | (with_reducible refine' useB ?gF ?gN (c_buffer ?gy ?gr) ?_)
  | (with_reducible refine' useT ?gF ?gN (c_truth ?gy ?gr) ?_)); (case gF => assumption); (case gN => assumption); (case gy => exact YP.fr (by assumption) (by assumption)); (case gr => exact Room.le (by assumption) (by decide)); intros)
  k_with "MINE" => repeat' ((fail_if_success (with_reducible show InvEndN _ _ _ _ _ _ _)); (fail_if_success (with_reducible show WNext _ _ _ _ _ _ _ _ _ _ _)); (fail_if_success (with_reducible show wpAny _ _ (exec (Stmt.While _ _ _ _) _) _ _ _)); (fail_if_success (with_reducible show wpAny _ _ (exec (Stmt.For _ _ _ _ _) _) _ _ _)); walk1)
  trivial
noncomputable def KC (P : Params) : Frag := [(133, o133_3 P), (132, o132_3 P), (109, o109_3 P), (116, o116_3 P), (123, o123_3 P), (130, o130_3 P)]
theorem inKC {w : World} {h : Heap} (y : YP w h) : (KC w.params).In h := by
  refine Frag.in_of (as := [133, 132, 109, 116, 123, 130]) (by rfl) ?_
  simp only [List.map_cons, List.map_nil, KC]
  rw [y 133 _ (by rfl), y 132 _ (by rfl), y 109 _ (by rfl), y 116 _ (by rfl), y 123 _ (by rfl), y 130 _ (by rfl)]
  rfl
theorem k_makes (P : Params) : makesIn (KC P) 133 = true := by kernel_rfl
theorem k_init (P : Params) : findIn (KC P) (.ref 133) "__init__" = some (some (.ref 109)) := by kernel_rfl
theorem k_process (P : Params) : findIn (KC P) (.ref 133) "process" = some (some (.ref 116)) := by kernel_rfl
theorem k_encode (P : Params) : findIn (KC P) (.ref 133) "encode" = some (some (.ref 123)) := by kernel_rfl
theorem k_decode (P : Params) : findIn (KC P) (.ref 133) "decode" = some (some (.ref 130)) := by kernel_rfl
theorem k_mech (P : Params) : findIn (KC P) (.ref 133) "mech" = some none := by kernel_rfl
theorem k_setattr (P : Params) : findIn (KC P) (.ref 133) "__setattr__" = some (some (.builtin "object.__setattr__")) := by kernel_rfl
theorem k_plain (P : Params) : plainOver (KC P) 133 = true := by kernel_rfl
theorem k_taker (P : Params) : takerIn (KC P) 133 "mech" = some none := by kernel_rfl
theorem k_hasd (P : Params) : hasDictIn (KC P) 133 = true := by kernel_rfl
theorem k_fn (P : Params) : typeIn (KC P) (.ref 109) = some (.type "function") := by kernel_rfl
theorem k_fns (P : Params) : isFn (KC P) (.ref 116) = true ∧ isFn (KC P) (.ref 123) = true ∧ isFn (KC P) (.ref 130) = true := ⟨by kernel_rfl, by kernel_rfl, by kernel_rfl⟩
theorem k_pg (P : Params) : plainGet (KC P) 133 "mech" = true ∧ plainGet (KC P) 133 "process" = true ∧ plainGet (KC P) 133 "encode" = true ∧ plainGet (KC P) 133 "decode" = true := ⟨by kernel_rfl, by kernel_rfl, by kernel_rfl, by kernel_rfl⟩
noncomputable def InstOf (h : Heap) (x dx : Addr) (f : Addr) : Prop := ∃ es n, h.get? x = some (instObj 133 dx) ∧ h.get? dx = some (dictOf es n) ∧ getL "mech" es = some (some (.ref f)) ∧ getL "process" es = some none ∧ getL "encode" es = some none ∧ getL "decode" es = some none
theorem InstOf.up {h h' : Heap} {x dx f : Addr} (i : InstOf h x dx f) (k : ∀ b o, h.get? b = some o → h'.get? b = some o) : InstOf h' x dx f := by
  obtain ⟨es, n, a, b, c⟩ := i
  exact ⟨es, n, k _ _ a, k _ _ b, c⟩
section
variable {w : World} {A : Around} {E : Value → Shared → Prop} {s : Shared}
theorem enterC {k : Nat} {a c : Addr} {args : Args} {binds : List (Str × Value)} {R : Result → Shared → Prop} {o : Obj} (name qual : Str) (st : Stmt) (kV pm : Value) (r : Room A (k + 1)) (y : YP w s.heap)
    (ho : (H7 w.params).get? a = some o)
    (hdata : o.data = .func { name := name, qualname := qual, params := fnArgs st, body := .stmts (fnBody st), scope := fnScope st, globals := 3, closure := [], defaults := .none, kwdefaults := kV, doc := .none, pyModule := pm, annotations := none, code := .ref c, closureTuple := .none, builtins := 0 })
    (hcode : ∃ o vs t, (H7 w.params).get? c = some o ∧ o.data = .fields vs ∧ vs[1]? = some (.str qual t))
    (hbind : BindsTo s { name := name, qualname := qual, params := fnArgs st, body := .stmts (fnBody st), scope := fnScope st, globals := 3, closure := [], defaults := .none, kwdefaults := kV, doc := .none, pyModule := pm, annotations := none, code := .ref c, closureTuple := .none, builtins := 0 } args binds)
    (hloc : ∀ x ∈ binds, (fnScope st).names.lookup x.1 = some .local)
    (hsc : (fnScope st).isCoroutine = false ∧ (fnScope st).isGenerator = false ∧ (fnScope st).kind = .function ∧ ((fnScope st).names.all fun x => x.2 != .cell) = true)
    (h : ∀ h₁, Room (A.deeper (envOf qual (fnScope st) s.heap.objs.size a (.ref c))) k → Fr s.heap s.heap.objs.size h₁ (fun x => binds.reverse.lookup x) →
      wpAny (model pw w) (A.deeper (envOf qual (fnScope st) s.heap.objs.size a (.ref c))) (execs (fnBody st) (envOf qual (fnScope st) s.heap.objs.size a (.ref c)))
        (fun f s' => R (.ok (.ret (match f with | .ret v => v | _ => .none))) s') (fun _ _ => False) { s with heap := h₁, toks := s.toks + binds.length }) :
    codeAny (model pw w) A (.call (.ref a) args) R s := by
  refine codeAny_call_def r.here (y _ _ ho) hdata (noLim y) (code_of y c qual hcode) rfl hbind (fun x hx => ?_) hloc (fun h₀ hn hk => ?_) hsc.1 hsc.2.1 hsc.2.2.1
  · have := List.all_eq_true.mp hsc.2.2.2 x hx
    intro e
    rw [e] at this
    exact absurd this (by decide)
  · exact wpAny_mono (h h₀ r.deep ⟨hn, hk, Nat.le_refl _⟩) (fun _ _ x => x) fun _ _ x => x.elim
set_option maxHeartbeats 3000000 in
theorem c_make {f : Addr} (y : YP w s.heap) (hr : Room A 2) : wpAny (model pw w) A (call (.ref 133) [.ref f]) (Ret s fun v h => ∃ x dx es n, v = .ref x ∧ h.get? x = some (instObj 133 dx) ∧ h.get? dx = some (dictOf es n) ∧ s.heap.get? x = none ∧ s.heap.get? dx = none ∧ getL "mech" es = some (some (.ref f)) ∧ getL "process" es = some none ∧ getL "encode" es = some none ∧ getL "decode" es = some none) E s := by
  have X : (KC w.params).In s.heap := inKC y
  refine wpAny_call ?_
  obtain ⟨h0, g, d, tk, os⟩ := s
  refine make_core (makes_of X (k_makes _)) (looks_findIn X (k_init _)) (fun self => bind_fn X self (k_fn _)) (.inl rfl) ?_
  have hg : ∀ b o, h0.get? b = some o → ((h0.push emptyDict).push (instObj 133 h0.objs.size)).get? b = some o := fun b o e => Heap.get?_push_of_some _ (Heap.get?_push_of_some _ e)
  have hr2 : Room (A.under (.builtin "type.__call__" ⟨.ref 133 :: [.ref f], []⟩)) 1 := by
    have e1 : Code.weight (.builtin "type.__call__" ⟨.ref 133 :: [.ref f], []⟩) = 1 := by kernel_rfl
    have e2 : Code.cUnits (.builtin "type.__call__" ⟨.ref 133 :: [.ref f], []⟩) = 1 := by kernel_rfl
    refine ⟨hr.1, ?_, ?_⟩
    · have := hr.2; show A.depth + Code.weight _ + 1 < _; rw [e1]; (first | lia | omega)
    · have := hr.3; show A.units + Code.cUnits _ + 8 * 1 < _; rw [e2]; (first | lia | omega)
  refine enterC (k := 0) (args := ⟨[.ref (h0.objs.size + 1), .ref f], []⟩) (binds := [(Str.ofString "self", .ref (h0.objs.size + 1)), (Str.ofString "mechinst", .ref f)]) "__init__" "_Authenticator.__init__" (mtAt 12 0) .none _ hr2 (y.up hg) (by rfl) (by rfl) ⟨_, _, _, by rfl, by rfl, by rfl⟩ (BindsTo.of_eq (by rfl)) (locs (by rfl)) ⟨by rfl, by rfl, by rfl, by rfl⟩ (fun h₁ r F' => ?_)
  have hz : ((h0.push emptyDict).push (instObj 133 h0.objs.size)).objs.size = h0.objs.size + 2 := by rw [Heap.size_push, Heap.size_push]
  have F : Fr h0 (h0.objs.size + 2) h₁ (fun x => [(Str.ofString "self", Value.ref (h0.objs.size + 1)), (Str.ofString "mechinst", .ref f)].reverse.lookup x) := by
    have e := F'.ns
    rw [show (Shared.heap _).objs.size = h0.objs.size + 2 from hz] at e
    exact ⟨e, fun b o e => F'.keep b o (hg b o e), by (first | lia | omega)⟩
  have N : News h0 (h0.objs.size + 2) h₁ [(h0.objs.size + 1, instObj 133 h0.objs.size), (h0.objs.size, emptyDict)] := by
    intro p hp
    have n1 : h0.get? (h0.objs.size + 1) = none := Heap.get?_none_of_le (by (first | lia | omega))
    have n0 : h0.get? h0.objs.size = none := Heap.get?_none_of_le (by (first | lia | omega))
    rcases List.mem_cons.mp hp with rfl | hp
    · refine ⟨F'.keep _ _ ?_, by show h0.objs.size + 1 ≠ _; (first | lia | omega), n1⟩
      have := Heap.get?_push_size (h := h0.push emptyDict) (o := instObj 133 h0.objs.size) rfl
      rwa [Heap.size_push] at this
    · rw [List.mem_singleton.mp hp]
      refine ⟨F'.keep _ _ ?_, by show h0.objs.size ≠ _; (first | lia | omega), n0⟩
      exact Heap.get?_push_of_some _ (Heap.get?_push_size _ rfl)
  have hne : h0.objs.size + 1 ≠ h0.objs.size := by (first | lia | omega)
  rw [show (Shared.heap _).objs.size = h0.objs.size + 2 from hz]
  clear F'
  have X0 := X
  dsimp only at X0
  walk_at "MINE"
  refine set_dict (K := KC w.params) (x := h0.objs.size + 1) (dx := h0.objs.size) (C := 133) (es := []) (n := 0) (news := [(h0.objs.size + 1, instObj 133 h0.objs.size), (h0.objs.size, emptyDict)]) F X0 N (InstAt.of_news N (.head _) (.tail _ (.head _))) rfl (k_setattr _) (k_plain _) (k_taker _) (k_hasd _) rfl rfl (.tail hne (.head (fun _ h => nomatch h))) (by with_unfolding_all exact Nat.le_of_ble_eq_true rfl) ?_
  intro h' F2 N2
  walk_at "MINE"
  refine ⟨rfl, ⟨⟨h', _, rfl, F2.keep⟩, _, _, _, _, rfl, (N2 _ (.head _)).1, (N2 _ (.tail _ (.head _))).1, (N2 _ (.head _)).2.2, (N2 _ (.tail _ (.head _))).2.2, ?_, ?_, ?_, ?_⟩⟩
  · rfl
  · rfl
  · rfl
  · rfl
end
end Mine
end P_WkB
section P_WkC
open PySem PySem.W PySem.Calls PyProof.Rows
set_option linter.unusedVariables false
set_option maxRecDepth 100000
namespace Mine
theorem rules_WkC_1 : True := by
  k_with_none
  k_with "eval Name" => ((with_reducible refine' ld ?gF ?gv ?_ ?gk ?gl ?gd); (case gF => assumption); (case gl => with_unfolding_all exact rfl); (case gv => with_unfolding_all exact rfl); (case gk => with_unfolding_all exact rfl); (case gd => with_unfolding_all exact rfl))
  k_with "eval Name" => ((first | (with_reducible refine' l_ascii_buffer ?gF ?gy ?gk ?gx ?_) | (with_reducible refine' l_buffer ?gF ?gy ?gk ?gx ?_) | (with_reducible refine' l_truth ?gF ?gy ?gk ?gx ?_) | (with_reducible refine' l_b64_value ?gF ?gy ?gk ?gx ?_) | (with_reducible refine' l_a2b_base64 ?gF ?gy ?gk ?gx ?_) | (with_reducible refine' l_b2a_base64 ?gF ?gy ?gk ?gx ?_) | (with_reducible refine' l_Authenticator ?gF ?gy ?gk ?gx ?_) | (with_reducible refine' l_twin_re_1 ?gF ?gy ?gk ?gx ?_) | (with_reducible refine' l_twin_re_2 ?gF ?gy ?gk ?gx ?_) | (with_reducible refine' l_quotedata ?gF ?gy ?gk ?gx ?_) | (with_reducible refine' l_b1_set ?gF ?gy ?gk ?gx ?_) | (with_reducible refine' l_in_table_b1 ?gF ?gy ?gk ?gx ?_) | (with_reducible refine' l_b3_exceptions ?gF ?gy ?gk ?gx ?_) | (with_reducible refine' l_map_table_b3 ?gF ?gy ?gk ?gx ?_) | (with_reducible refine' l_law_piece ?gF ?gy ?gk ?gx ?_) | (with_reducible refine' l_law_rows ?gF ?gy ?gk ?gx ?_) | (with_reducible refine' l_law_in_fours ?gF ?gy ?gk ?gx ?_) | (with_reducible refine' l_law_prepares ?gF ?gy ?gk ?gx ?_) | (with_reducible refine' l_law_sends ?gF ?gy ?gk ?gx ?_) | (with_reducible refine' l_B64 ?gF ?gy ?gk ?gx ?_) | (with_reducible refine' l_CRLF ?gF ?gy ?gk ?gx ?_) | (with_reducible refine' l_type ?gF ?gy ?gk ?gx ?_) | (with_reducible refine' l_str ?gF ?gy ?gk ?gx ?_) | (with_reducible refine' l_bytes ?gF ?gy ?gk ?gx ?_) | (with_reducible refine' l_bytearray ?gF ?gy ?gk ?gx ?_) | (with_reducible refine' l_bool ?gF ?gy ?gk ?gx ?_) | (with_reducible refine' l_int ?gF ?gy ?gk ?gx ?_) | (with_reducible refine' l_float ?gF ?gy ?gk ?gx ?_) | (with_reducible refine' l_complex ?gF ?gy ?gk ?gx ?_) | (with_reducible refine' l_list ?gF ?gy ?gk ?gx ?_) | (with_reducible refine' l_tuple ?gF ?gy ?gk ?gx ?_) | (with_reducible refine' l_dict ?gF ?gy ?gk ?gx ?_) | (with_reducible refine' l_set ?gF ?gy ?gk ?gx ?_) | (with_reducible refine' l_frozenset ?gF ?gy ?gk ?gx ?_) | (with_reducible refine' l_range ?gF ?gy ?gk ?gx ?_) | (with_reducible refine' l_ord ?gF ?gy ?gk ?gx ?_) | (with_reducible refine' l_chr ?gF ?gy ?gk ?gx ?_) | (with_reducible refine' l_len ?gF ?gy ?gk ?gx ?_) | (with_reducible refine' l_isinstance ?gF ?gy ?gk ?gx ?_)); (case gF => assumption); (case gy => assumption); (case gk => with_unfolding_all exact rfl); (case gx => with_unfolding_all exact rfl))
  k_with "call type:type" => ((with_reducible refine' call_type_of (Tx := "bytes") (typeIs_bytes _ _ _) ?hnb ?_); (case hnb => decide))
  k_with "callWith ref" => (refine callWith_y ⟨_, _, (by with_unfolding_all exact rfl), (by with_unfolding_all exact rfl)⟩ ?_)
  k_with "And" => ((with_reducible show YP _ _ ∧ wpAny _ _ (call (Value.ref _) _ _) _ _ _); refine' And.intro ?gA ?_; (case gA => exact YP.fr (by assumption) (by assumption)))
  k_with "unpackItems ref" => ((refine' unpackItemsN_ ?gF ?gN ?gT ?gh ?gn ?_; (case gF => assumption); (case gN => assumption); (case gT => exact News.isTup (by assumption) (by k_mem)); (case gh => exact Room.handled (by assumption)); (case gn => with_unfolding_all exact rfl)); intro _ _ _)
  k_with "getMethod ref" => (refine' listMethod_K ?gN ?gm PySem.F.slot_list_append PySem.F.type_list_append ?_; (case gN => assumption); (case gm => k_mem))
  k_with "call builtin:list.append" => ((refine' append_K ?gF ?gN ?gU ?_ ?gz; (case gF => assumption); (case gN => assumption); (case gU => k_upd); (case gz => first | assumption | (simp only [Array.size_push, List.size_toArray, List.length_append, List.length_cons, List.length_nil, sizeLine_eq] at *; (first | lia | omega)) | size_fits)); intro _ _ _)
  k_with "call ref" => ((first
  | (with_reducible refine' useI ?gF ?gN (c_b64_value ?gy ?gr) ?_)
  | (with_reducible refine' useB ?gF ?gN (c_ascii_buffer ?gy ?gr) ?_)
  | (with_reducible refine' useB ?gF ?gN (c_buffer ?gy ?gr) ?_)
  | (with_reducible refine' useT ?gF ?gN (c_truth ?gy ?gr) ?_)); (case gF => assumption); (case gN => assumption); (case gy => exact YP.fr (by assumption) (by assumption)); (case gr => exact Room.le (by assumption) (by decide)); intros)
  k_with "MINE" => repeat' ((fail_if_success (with_reducible show InvEndN _ _ _ _ _ _ _)); (fail_if_success (with_reducible show WNext _ _ _ _ _ _ _ _ _ _ _)); (fail_if_success (with_reducible show wpAny _ _ (exec (Stmt.While _ _ _ _) _) _ _ _)); (fail_if_success (with_reducible show wpAny _ _ (exec (Stmt.For _ _ _ _ _) _) _ _ _)); walk1)
  trivial
section
variable {w : World} {A : Around} {E : Value → Shared → Prop} {s : Shared}
theorem b2aU {h₀ : Heap} {L : Addr} {m : Str → Option Value} {news : List (Addr × Obj)} {Q : Value → Shared → Prop} {b : Array UInt8} {t : Tok} (F : Fr h₀ L s.heap m) (N : News h₀ L s.heap news) (y : YP w s.heap) (hr : Room A 2) (hz : b.size ≤ 1048576)
    (k : ∀ (q : Array UInt8) t' h' tk', KBw.bInts q = foursI (KBw.bInts b) ++ [10] → q.size = 4 * ((b.size + 2) / 3) + 1 → Fr h₀ L h' m → News h₀ L h' news → Q (.bytes q t') { s with heap := h', toks := tk' }) : wpAny (model pw w) A (call (.ref 95) [.bytes b t]) Q E s := by
  have hin : ∀ n ∈ b2aOut (KBw.bInts b), 0 ≤ n ∧ n < 256 := by
    rw [b2a_eq (bInts_oct b)]
    intro n hn
    rcases List.mem_append.mp hn with hn | hn
    · have := foursI_in _ (bInts_oct b) n hn; (first | lia | omega)
    · rw [List.mem_singleton.mp hn]; decide
  refine useB F N (c_b2a y hr hz hin) fun t' h' tk' F' N' => k _ t' h' tk' ?_ ?_ F' N'
  · rw [byteArr_ints hin, b2a_eq (bInts_oct b)]
  · rw [byteArr_size, b2a_eq (bInts_oct b), List.length_append, foursI_len, KBw.ints_length]; rfl
theorem cutA_eq (l : List Int) : List.take ((some (48 : Int)).elim l.length (clipAt l.length) - (none : Option Int).elim 0 (clipAt l.length)) (List.drop ((none : Option Int).elim 0 (clipAt l.length)) l) = l.take 48 := by
  simp only [Option.elim, clipAt, List.drop_zero, Nat.sub_zero]
  have e : (max 0 (min (if (48 : Int) < 0 then (48 : Int) + l.length else 48) l.length)).toNat = min 48 l.length := clipP (by decide) _
  rw [e, ← List.take_take, List.take_length]
theorem cutB_eq (l : List Int) : List.take ((none : Option Int).elim l.length (clipAt l.length) - (some (48 : Int)).elim 0 (clipAt l.length)) (List.drop ((some (48 : Int)).elim 0 (clipAt l.length)) l) = l.drop 48 := by
  simp only [Option.elim, clipAt]
  have e : (max 0 (min (if (48 : Int) < 0 then (48 : Int) + l.length else 48) l.length)).toNat = min 48 l.length := clipP (by decide) _
  rw [e]
  rcases Nat.le_total 48 l.length with h | h
  · rw [Nat.min_eq_left h, List.take_of_length_le (by rw [List.length_drop]; (first | lia | omega))]
  · rw [Nat.min_eq_right h, List.drop_of_length_le (Nat.le_refl _), List.drop_of_length_le h]; simp
theorem cutM_eq (l : List Int) : List.take ((some (-1 : Int)).elim l.length (clipAt l.length) - (none : Option Int).elim 0 (clipAt l.length)) (List.drop ((none : Option Int).elim 0 (clipAt l.length)) l) = l.dropLast := by
  simp only [Option.elim, clipAt, List.drop_zero, Nat.sub_zero]
  have e : (max 0 (min (if (-1 : Int) < 0 then (-1 : Int) + l.length else -1) l.length)).toNat = l.length - 1 := clipM _
  rw [e, List.dropLast_eq_take]
theorem cutA {prog : Program} {value slice : PySem.Expr} {b : Array UInt8} {t : Tok} {h₀ : Heap} {L : Addr} {m : PySem.Str → Option Value} {news : List (Addr × Obj)} {u : Tok} {Q : Value → Shared → Prop} (hF : Fr h₀ L s.heap m) (hN : News h₀ L s.heap news) (hz : b.size ≤ 16777216)
    (h : ∀ h' t' k q, Fr h₀ L h' m → News h₀ L h' news → KBw.bInts q = (KBw.bInts b).take 48 → Q (.bytes q t') { s with heap := h', toks := k })
    (hs : subscripted slice false (.bytes b t) (.ref s.heap.objs.size) = operate [.ref s.heap.objs.size, .bytes b t] (getItem (.bytes b t) (.ref s.heap.objs.size)) := by with_unfolding_all rfl)
    (ht : ∀ r, letTemporaryGo value (.bytes b t) r = pure () := by intro _; with_unfolding_all rfl) :
    wpAny (model prog w) A (subscriptTail value slice (.bytes b t) (.ref s.heap.objs.size)) Q E { s with heap := s.heap.push { cls := .type "slice", data := .fields #[.none, .int 48 u, .none] } } :=
  KBc.slice_K (lo := none) (hi := some 48) hF hN rfl (by constructor) (by constructor) (by rw [KBw.ints_length]; exact hz) (fun h' t' k F N e => h h' t' k _ F N (e.trans (cutA_eq _))) hs ht
theorem cutB {prog : Program} {value slice : PySem.Expr} {b : Array UInt8} {t : Tok} {h₀ : Heap} {L : Addr} {m : PySem.Str → Option Value} {news : List (Addr × Obj)} {u : Tok} {Q : Value → Shared → Prop} (hF : Fr h₀ L s.heap m) (hN : News h₀ L s.heap news) (hz : b.size ≤ 16777216)
    (h : ∀ h' t' k q, Fr h₀ L h' m → News h₀ L h' news → KBw.bInts q = (KBw.bInts b).drop 48 → Q (.bytes q t') { s with heap := h', toks := k })
    (hs : subscripted slice false (.bytes b t) (.ref s.heap.objs.size) = operate [.ref s.heap.objs.size, .bytes b t] (getItem (.bytes b t) (.ref s.heap.objs.size)) := by with_unfolding_all rfl)
    (ht : ∀ r, letTemporaryGo value (.bytes b t) r = pure () := by intro _; with_unfolding_all rfl) :
    wpAny (model prog w) A (subscriptTail value slice (.bytes b t) (.ref s.heap.objs.size)) Q E { s with heap := s.heap.push { cls := .type "slice", data := .fields #[.int 48 u, .none, .none] } } :=
  KBc.slice_K (lo := some 48) (hi := none) hF hN rfl (by constructor) (by constructor) (by rw [KBw.ints_length]; exact hz) (fun h' t' k F N e => h h' t' k _ F N (e.trans (cutB_eq _))) hs ht
theorem cutM {prog : Program} {value slice : PySem.Expr} {b : Array UInt8} {t : Tok} {h₀ : Heap} {L : Addr} {m : PySem.Str → Option Value} {news : List (Addr × Obj)} {u : Tok} {Q : Value → Shared → Prop} (hF : Fr h₀ L s.heap m) (hN : News h₀ L s.heap news) (hz : b.size ≤ 16777216)
    (h : ∀ h' t' k q, Fr h₀ L h' m → News h₀ L h' news → KBw.bInts q = (KBw.bInts b).dropLast → Q (.bytes q t') { s with heap := h', toks := k })
    (hs : subscripted slice false (.bytes b t) (.ref s.heap.objs.size) = operate [.ref s.heap.objs.size, .bytes b t] (getItem (.bytes b t) (.ref s.heap.objs.size)) := by with_unfolding_all rfl)
    (ht : ∀ r, letTemporaryGo value (.bytes b t) r = pure () := by intro _; with_unfolding_all rfl) :
    wpAny (model prog w) A (subscriptTail value slice (.bytes b t) (.ref s.heap.objs.size)) Q E { s with heap := s.heap.push { cls := .type "slice", data := .fields #[.none, .int (-1) u, .none] } } :=
  KBc.slice_K (lo := none) (hi := some (-1)) hF hN rfl (by constructor) (by constructor) (by rw [KBw.ints_length]; exact hz) (fun h' t' k F N e => h h' t' k _ F N (e.trans (cutM_eq _))) hs ht
theorem rules_WkC_2 : True := by
  k_with "subscriptTail" => ((show wpAny _ _ (subscriptTail _ (Expr.Slice _ _ none _) (Value.bytes _ _) (Value.ref _)) _ _ _); (with_reducible rename Fr _ _ _ _ => gF); (with_reducible rename News _ _ _ _ => gN); (first | (refine cutA (s := ⟨_, _, _, _, _⟩) gF gN (by first | (first | lia | omega) | (dsimp only; (first | lia | omega))) ?_) | (refine cutB (s := ⟨_, _, _, _, _⟩) gF gN (by first | (first | lia | omega) | (dsimp only; (first | lia | omega))) ?_) | (refine cutM (s := ⟨_, _, _, _, _⟩) gF gN (by first | (first | lia | omega) | (dsimp only; (first | lia | omega))) ?_)); intro _ _ _ _ _ _ hcut; (have hcutL := congrArg List.length hcut); (simp only [KBw.ints_length, List.length_take, List.length_drop, List.length_dropLast] at hcutL); (try rw [Nat.min_eq_left (by (first | lia | omega))] at hcutL))
  k_with "WENDC" => ((rename News _ _ _ _ => nE); (refine WNext.intro (c := ⟨_, _, _, _⟩) (by assumption) nE (by with_unfolding_all rfl) (by kst_all) (by (intro z hz2 hz3; have e0 := hz2 _ (List.Mem.head _); have e1 := hz2 _ (List.Mem.tail _ (List.Mem.head _)); dsimp only at e0 e1; obtain ⟨e2, e3⟩ : z ≠ Str.ofString "t" ∧ z ≠ Str.ofString "e" := (by simpa using hz3); simp [kstB, e0, e1, e2, e3])) ?_ ?_))
  k_with "getMethod str" => (refine encM ?_)
  k_with "call builtin:str.encode" => ((refine encU (by assumption) (by assumption) ?_); intro _ _)
  k_with "call ref" => ((with_reducible refine' b2aU ?gF ?gN ?gy ?gr ?gz ?_); (case gF => assumption); (case gN => assumption); (case gy => exact YP.fr (by assumption) (by assumption)); (case gr => exact Room.le (by assumption) (by decide)); (case gz => first | (first | lia | omega) | (dsimp only; (first | lia | omega))); intros)
  k_with "binaryOp Add bytes bytes" => ((refine KBy.add_bytes (by first | (first | lia | omega) | (dsimp only; (first | lia | omega))) ?_); intro _ _)
  k_with "truthy bytes" => (refine truthy_bytes (by first | (first | lia | omega) | (dsimp only; (first | lia | omega))) ?_)
  trivial
structure SC where
  oup : Array UInt8
  t1 : Tok
  inp : Array UInt8
  t2 : Tok
structure PC (B : Array UInt8) (c : SC) : Prop where
  eq : KBw.bInts c.oup ++ foursI (KBw.bInts c.inp) = foursI (KBw.bInts B)
  le : c.inp.size ≤ B.size
  lo : c.oup.size ≤ 1048576
theorem pc_of {B : Array UInt8} {c : SC} (h : KBw.bInts c.oup ++ foursI (KBw.bInts c.inp) = foursI (KBw.bInts B)) (hl : c.inp.size ≤ B.size) (hz : B.size ≤ 786000) : PC B c := by
  refine ⟨h, hl, ?_⟩
  have := congrArg List.length h
  rw [List.length_append, foursI_len, foursI_len, KBw.ints_length, KBw.ints_length, KBw.ints_length] at this
  (first | lia | omega)
set_option maxHeartbeats 3000000 in
theorem c_encode {x : Str} {xo : Addr} {t : Tok} (y : YP w s.heap) (hr : Room A 3) (hb : ∀ y ∈ x.cps.toList, Builtin._codecs.utf8Codec.bad y = false) (hsz : (encB Builtin._codecs.utf8Codec x).size ≤ sizeLine) (hz : (encB Builtin._codecs.utf8Codec x).size ≤ 786000) :
    wpAny (model pw w) A (call (.ref 123) [.ref xo, .str x t]) (Ret s fun v _ => ∃ t', v = .bytes (byteArr (foursI (KBw.bInts (encB Builtin._codecs.utf8Codec x)))) t') E s := by
  refine enterF (k := 2) (args := ⟨[.ref xo, .str x t], []⟩) (binds := [(Str.ofString "self", .ref xo), (Str.ofString "inp", .str x t)]) "encode" "_Authenticator.encode" (mtAt 12 2) .none _ hr y (by rfl) (by rfl) ⟨_, _, _, by rfl, by rfl, by rfl⟩ (BindsTo.of_eq (by rfl)) (locs (by rfl)) ⟨by rfl, by rfl, by rfl, by rfl⟩ (fun h₁ r F N => ?_)
  obtain ⟨B, hB⟩ : ∃ B, B = encB Builtin._codecs.utf8Codec x := ⟨_, rfl⟩
  rw [← hB] at hz ⊢
  walk_at "MINE"
  k_sweep
  rename Fr _ _ _ _ => F'
  rename News _ _ _ _ => N'
  rw [← hB] at F'
  refine while_kst (σ := SC) (fun _ => []) (fun c => [(Str.ofString "oup", .bytes c.oup c.t1), (Str.ofString "inp", .bytes c.inp c.t2)]) [Str.ofString "t", Str.ofString "e"] (PC B) (fun c => c.inp.size) ⟨#[], ?tt1, B, ?tt2⟩ F' N' ?kk ⟨rfl, Nat.le_refl _, Nat.zero_le _⟩ ?turn
  case kk => kst_all
  case turn =>
    rintro ⟨oup, t1, inp, t2⟩ u h tk ⟨heq, hle, hlo⟩ F2 N2
    clear F' N'
    dsimp only at heq hle hlo F2
    have hos : oup.size ≤ 1048576 := hlo
    walk_at "MINE"
    · dsimp only [WEnd]
      walk_at "WENDC"
      · rename KBw.bInts _ = List.take 48 _ => hA
        rename KBw.bInts _ = List.drop 48 _ => hB
        rename KBw.bInts _ = _ ++ [10] => hE
        rename KBw.bInts _ = List.dropLast _ => hM
        rw [hE, List.dropLast_concat, hA] at hM
        refine pc_of ?_ (by dsimp only; (first | lia | omega)) (by (first | lia | omega))
        dsimp only
        rw [KBw.ints_app rfl hM, hB, List.append_assoc, ← foursI_app _ _ (by rw [List.length_take, KBw.ints_length]; (first | lia | omega)), List.take_append_drop]
        exact heq
      · dsimp only; (first | lia | omega)
    · exfalso; (first | lia | omega)
    · dsimp only [WEnd]
      walk_at "WENDC"
      · rename KBw.bInts _ = _ ++ [10] => hE
        rename KBw.bInts _ = List.dropLast _ => hM
        rw [hE, List.dropLast_concat] at hM
        refine pc_of ?_ (by dsimp only; exact Nat.zero_le _) (by (first | lia | omega))
        dsimp only
        rw [KBw.ints_app rfl hM, show KBw.bInts #[] = [] from rfl, show foursI [] = [] from rfl, List.append_nil]
        exact heq
      · dsimp only; show 0 < _; (first | lia | omega)
    · exfalso; (first | lia | omega)
    · walk_at "MINE"
      have h0 : inp = #[] := Array.eq_empty_of_size_eq_zero (by (first | lia | omega))
      rw [h0, show KBw.bInts #[] = [] from rfl, show foursI [] = [] from rfl, List.append_nil] at heq
      rw [← heq, ints_byteArr]
      exact done_at (P := fun v _ => ∃ t', v = .bytes oup t') (by assumption) ⟨_, rfl⟩
end
end Mine
end P_WkC
section P_WkD
open PySem PySem.W PySem.Calls PyProof.Rows
set_option linter.unusedVariables false
set_option maxRecDepth 100000
namespace Mine
theorem rules_WkD_1 : True := by
  k_with_none
  k_with "eval Name" => ((with_reducible refine' ld ?gF ?gv ?_ ?gk ?gl ?gd); (case gF => assumption); (case gl => with_unfolding_all exact rfl); (case gv => with_unfolding_all exact rfl); (case gk => with_unfolding_all exact rfl); (case gd => with_unfolding_all exact rfl))
  k_with "eval Name" => ((first | (with_reducible refine' l_ascii_buffer ?gF ?gy ?gk ?gx ?_) | (with_reducible refine' l_buffer ?gF ?gy ?gk ?gx ?_) | (with_reducible refine' l_truth ?gF ?gy ?gk ?gx ?_) | (with_reducible refine' l_b64_value ?gF ?gy ?gk ?gx ?_) | (with_reducible refine' l_a2b_base64 ?gF ?gy ?gk ?gx ?_) | (with_reducible refine' l_b2a_base64 ?gF ?gy ?gk ?gx ?_) | (with_reducible refine' l_Authenticator ?gF ?gy ?gk ?gx ?_) | (with_reducible refine' l_twin_re_1 ?gF ?gy ?gk ?gx ?_) | (with_reducible refine' l_twin_re_2 ?gF ?gy ?gk ?gx ?_) | (with_reducible refine' l_quotedata ?gF ?gy ?gk ?gx ?_) | (with_reducible refine' l_b1_set ?gF ?gy ?gk ?gx ?_) | (with_reducible refine' l_in_table_b1 ?gF ?gy ?gk ?gx ?_) | (with_reducible refine' l_b3_exceptions ?gF ?gy ?gk ?gx ?_) | (with_reducible refine' l_map_table_b3 ?gF ?gy ?gk ?gx ?_) | (with_reducible refine' l_law_piece ?gF ?gy ?gk ?gx ?_) | (with_reducible refine' l_law_rows ?gF ?gy ?gk ?gx ?_) | (with_reducible refine' l_law_in_fours ?gF ?gy ?gk ?gx ?_) | (with_reducible refine' l_law_prepares ?gF ?gy ?gk ?gx ?_) | (with_reducible refine' l_law_sends ?gF ?gy ?gk ?gx ?_) | (with_reducible refine' l_B64 ?gF ?gy ?gk ?gx ?_) | (with_reducible refine' l_CRLF ?gF ?gy ?gk ?gx ?_) | (with_reducible refine' l_type ?gF ?gy ?gk ?gx ?_) | (with_reducible refine' l_str ?gF ?gy ?gk ?gx ?_) | (with_reducible refine' l_bytes ?gF ?gy ?gk ?gx ?_) | (with_reducible refine' l_bytearray ?gF ?gy ?gk ?gx ?_) | (with_reducible refine' l_bool ?gF ?gy ?gk ?gx ?_) | (with_reducible refine' l_int ?gF ?gy ?gk ?gx ?_) | (with_reducible refine' l_float ?gF ?gy ?gk ?gx ?_) | (with_reducible refine' l_complex ?gF ?gy ?gk ?gx ?_) | (with_reducible refine' l_list ?gF ?gy ?gk ?gx ?_) | (with_reducible refine' l_tuple ?gF ?gy ?gk ?gx ?_) | (with_reducible refine' l_dict ?gF ?gy ?gk ?gx ?_) | (with_reducible refine' l_set ?gF ?gy ?gk ?gx ?_) | (with_reducible refine' l_frozenset ?gF ?gy ?gk ?gx ?_) | (with_reducible refine' l_range ?gF ?gy ?gk ?gx ?_) | (with_reducible refine' l_ord ?gF ?gy ?gk ?gx ?_) | (with_reducible refine' l_chr ?gF ?gy ?gk ?gx ?_) | (with_reducible refine' l_len ?gF ?gy ?gk ?gx ?_) | (with_reducible refine' l_isinstance ?gF ?gy ?gk ?gx ?_)); (case gF => assumption); (case gy => assumption); (case gk => with_unfolding_all exact rfl); (case gx => with_unfolding_all exact rfl))
  k_with "call type:type" => ((with_reducible refine' call_type_of (Tx := "bytes") (typeIs_bytes _ _ _) ?hnb ?_); (case hnb => decide))
  k_with "callWith ref" => (refine callWith_y ⟨_, _, (by with_unfolding_all exact rfl), (by with_unfolding_all exact rfl)⟩ ?_)
  k_with "And" => ((with_reducible show YP _ _ ∧ wpAny _ _ (call (Value.ref _) _ _) _ _ _); refine' And.intro ?gA ?_; (case gA => exact YP.fr (by assumption) (by assumption)))
  k_with "unpackItems ref" => ((refine' unpackItemsN_ ?gF ?gN ?gT ?gh ?gn ?_; (case gF => assumption); (case gN => assumption); (case gT => exact News.isTup (by assumption) (by k_mem)); (case gh => exact Room.handled (by assumption)); (case gn => with_unfolding_all exact rfl)); intro _ _ _)
  k_with "getMethod ref" => (refine' listMethod_K ?gN ?gm PySem.F.slot_list_append PySem.F.type_list_append ?_; (case gN => assumption); (case gm => k_mem))
  k_with "call builtin:list.append" => ((refine' append_K ?gF ?gN ?gU ?_ ?gz; (case gF => assumption); (case gN => assumption); (case gU => k_upd); (case gz => first | assumption | (simp only [Array.size_push, List.size_toArray, List.length_append, List.length_cons, List.length_nil, sizeLine_eq] at *; (first | lia | omega)) | size_fits)); intro _ _ _)
  k_with "call ref" => ((first
  | (with_reducible refine' useI ?gF ?gN (c_b64_value ?gy ?gr) ?_)
  | (with_reducible refine' useB ?gF ?gN (c_ascii_buffer ?gy ?gr) ?_)
  | (with_reducible refine' useB ?gF ?gN (c_buffer ?gy ?gr) ?_)
  | (with_reducible refine' useT ?gF ?gN (c_truth ?gy ?gr) ?_)); (case gF => assumption); (case gN => assumption); (case gy => exact YP.fr (by assumption) (by assumption)); (case gr => exact Room.le (by assumption) (by decide)); intros)
  k_with "MINE" => repeat' ((fail_if_success (with_reducible show InvEndN _ _ _ _ _ _ _)); (fail_if_success (with_reducible show WNext _ _ _ _ _ _ _ _ _ _ _)); (fail_if_success (with_reducible show wpAny _ _ (exec (Stmt.While _ _ _ _) _) _ _ _)); (fail_if_success (with_reducible show wpAny _ _ (exec (Stmt.For _ _ _ _ _) _) _ _ _)); walk1)
  trivial
section
variable {w : World} {A : Around} {E : Value → Shared → Prop} {s : Shared}
theorem a2bU {h₀ : Heap} {L : Addr} {m : Str → Option Value} {news : List (Addr × Obj)} {Q : Value → Shared → Prop} {b : Array UInt8} {l : List Int} {t : Tok} (F : Fr h₀ L s.heap m) (N : News h₀ L s.heap news) (y : YP w s.heap) (hr : Room A 2) (hb : b = byteArr (foursI l)) (ho : Oct l) (hz : l.length ≤ 786000)
    (k : ∀ t' h' tk', Fr h₀ L h' m → News h₀ L h' news → Q (.bytes (byteArr l) t') { s with heap := h', toks := tk' }) : wpAny (model pw w) A (call (.ref 87) [.bytes b t]) Q E s := by
  subst hb
  obtain ⟨qp, left, pads, h1, h2, h3⟩ := a2b_go l [] ho
  have hi : KBw.bInts (byteArr (foursI l)) = foursI l := byteArr_ints fun n hn => by have := foursI_in l ho n hn; (first | lia | omega)
  refine useB F N (c_a2b (out := l) (qp := qp) (left := left) (pads := pads) y hr (by rw [byteArr_size, foursI_len]; (first | lia | omega)) (by rw [hi]; simpa [a2bRun] using h1) h2 h3 ho) k
theorem rules_WkD_2 : True := by
  k_with "call ref" => ((with_reducible refine' a2bU ?gF ?gN ?gy ?gr ?gb ?go ?gz ?_); (case gF => assumption); (case gN => assumption); (case gy => exact YP.fr (by assumption) (by assumption)); (case gr => exact Room.le (by assumption) (by decide)); (case gb => assumption); (case go => assumption); (case gz => assumption); intros)
  k_with "truthy bytes" => (refine truthy_bytes (by (first | lia | omega)) ?_)
  trivial
set_option maxHeartbeats 3000000 in
theorem c_decode {b : Array UInt8} {l : List Int} {xo : Addr} {t : Tok} (y : YP w s.heap) (hr : Room A 3) (hb : b = byteArr (foursI l)) (ho : Oct l) (hz : l.length ≤ 786000) (hne : 1 ≤ l.length) :
    wpAny (model pw w) A (call (.ref 130) [.ref xo, .bytes b t]) (Ret s fun v _ => ∃ t', v = .bytes (byteArr l) t') E s := by
  refine enterF (k := 2) (args := ⟨[.ref xo, .bytes b t], []⟩) (binds := [(Str.ofString "self", .ref xo), (Str.ofString "inp", .bytes b t)]) "decode" "_Authenticator.decode" (mtAt 12 3) .none _ hr y (by rfl) (by rfl) ⟨_, _, _, by rfl, by rfl, by rfl⟩ (BindsTo.of_eq (by rfl)) (locs (by rfl)) ⟨by rfl, by rfl, by rfl, by rfl⟩ (fun h₁ r F N => ?_)
  have hbs : b.size = 4 * ((l.length + 2) / 3) := by rw [hb, byteArr_size, foursI_len]
  walk_at "MINE"
  all_goals first
    | (exfalso; (first | lia | omega))
    | exact done_at (P := fun v _ => ∃ t', v = .bytes (byteArr l) t') (by assumption) ⟨_, rfl⟩
theorem InstOf.at {h : Heap} {x dx f : Addr} (i : InstOf h x dx f) : ∃ es n, InstAt h x (instObj 133 dx) 133 (some (dictOf es n)) ∧ getL "mech" es = some (some (.ref f)) ∧ getL "encode" es = some none ∧ getL "decode" es = some none ∧ getL "process" es = some none := by
  obtain ⟨es, n, a, b, c, d, e, g⟩ := i
  exact ⟨es, n, ⟨a, rfl, rfl, b⟩, c, e, g, d⟩
theorem mechM {h₀ : Heap} {L : Addr} {m : Str → Option Value} {x dx f : Addr} {pl : Sem Bool} {Q : Value × List Value → Shared → Prop} (F : Fr h₀ L s.heap m) (y : YP w h₀) (I : InstOf h₀ x dx f) (h : Q (.ref f, []) { s with toks := s.toks + 1 }) : wpAny (model pw w) A (getMethod (.ref x) (Str.ofString "mech") pl) Q E s := by
  obtain ⟨es, n, i, g1, _⟩ := (I.up F.keep).at
  refine method_usual (K := KC w.params) (inKC (y.fr F)) i (plainGet_of (k_pg _).1).1 (plainGet_of (k_pg _).1).2 (k_mech _) rfl ?_
  exact get_own (K := KC w.params) F (inKC y) i (k_pg _).1 (k_hasd _) (k_mech _) rfl g1 rfl h
theorem decodeM {h₀ : Heap} {L : Addr} {m : Str → Option Value} {x dx f : Addr} {pl : Sem Bool} {Q : Value × List Value → Shared → Prop} (F : Fr h₀ L s.heap m) (y : YP w h₀) (I : InstOf h₀ x dx f) (h : Q (.ref 130, [.ref x]) s) : wpAny (model pw w) A (getMethod (.ref x) (Str.ofString "decode") pl) Q E s := by
  obtain ⟨es, n, i, _, _, g, _⟩ := (I.up F.keep).at
  exact method_inst (K := KC w.params) F (inKC y) i (k_pg _).2.2.2 (k_decode _) (k_fns _).2.2 g h
theorem encodeM {h₀ : Heap} {L : Addr} {m : Str → Option Value} {x dx f : Addr} {pl : Sem Bool} {Q : Value × List Value → Shared → Prop} (F : Fr h₀ L s.heap m) (y : YP w h₀) (I : InstOf h₀ x dx f) (h : Q (.ref 123, [.ref x]) s) : wpAny (model pw w) A (getMethod (.ref x) (Str.ofString "encode") pl) Q E s := by
  obtain ⟨es, n, i, _, g, _, _⟩ := (I.up F.keep).at
  exact method_inst (K := KC w.params) F (inKC y) i (k_pg _).2.2.1 (k_encode _) (k_fns _).2.1 g h
theorem processM {x dx f : Addr} {pl : Sem Bool} {Q : Value × List Value → Shared → Prop} (y : YP w s.heap) (I : InstOf s.heap x dx f) (h : Q (.ref 116, [.ref x]) s) : wpAny (model pw w) A (getMethod (.ref x) (Str.ofString "process") pl) Q E s := by
  obtain ⟨es, n, i, _, _, _, g⟩ := I.at
  exact method_fn (inKC y) i (plainGet_of (k_pg _).2.1).1 (plainGet_of (k_pg _).2.1).2 (k_process _) (beq_iff_eq.mp (k_fns _).1) (by show (lookIn _ (dictOf es n)).map _ = _; rw [lookIn_dict, g]; rfl) h
theorem k_keep (P : Params) : keepIn (KC P) (.ref 116) = true ∧ keepIn (KC P) (.ref 123) = true ∧ keepIn (KC P) (.ref 130) = true ∧ keepIn (KC P) (.ref 133) = true := ⟨by kernel_rfl, by kernel_rfl, by kernel_rfl, by kernel_rfl⟩
theorem callWith_m {env : Env} {pos : Pos} {f : Addr} {x : Value} {e : Expr} {rest : List Expr} {Q : Value → Shared → Prop} (y : YP w s.heap) (hf : ∀ P, keepIn (KC P) (.ref f) = true)
    (h : wpAny (model pw w) A (spliced (backTo pos (starEach (e :: rest) env))) (fun vs s₁ => YP w s₁.heap ∧ wpAny (model pw w) A (call (.ref f) (x :: vs)) Q E s₁) E s)
    (he : starEach (e :: rest) env = (false, eval e env) :: starEach rest env := by rfl) (hplain : (backTo pos (starEach rest env)).any (·.1) = false := by rfl) :
    wpAny (model pw w) A (callWith pos (.ref f) [x] (backTo pos (starEach (e :: rest) env)) []) Q E s :=
  callWith_K (K := KC w.params) (inKC y) (hf _) (wpAny_mono h (fun vs s₁ h₁ => ⟨inKC h₁.1, h₁.2⟩) fun _ _ e => e) he hplain
theorem callWith_c {env : Env} {pos : Pos} {e : Expr} {rest : List Expr} {Q : Value → Shared → Prop} (y : YP w s.heap)
    (h : wpAny (model pw w) A (spliced (backTo pos (starEach (e :: rest) env))) (fun vs s₁ => YP w s₁.heap ∧ wpAny (model pw w) A (call (.ref 133) vs) Q E s₁) E s)
    (he : starEach (e :: rest) env = (false, eval e env) :: starEach rest env := by rfl) (hplain : (backTo pos (starEach rest env)).any (·.1) = false := by rfl) :
    wpAny (model pw w) A (callWith pos (.ref 133) [] (backTo pos (starEach (e :: rest) env)) []) Q E s :=
  callWith_K (K := KC w.params) (first := []) (inKC y) (k_keep _).2.2.2 (wpAny_mono h (fun vs s₁ h₁ => ⟨inKC h₁.1, h₁.2⟩) fun _ _ e => e) he hplain
theorem rules_WkD_3 : True := by
  k_with "getMethod ref" => ((first | (with_reducible refine' mechM ?gF ?gy ?gI ?_) | (with_reducible refine' decodeM ?gF ?gy ?gI ?_) | (with_reducible refine' encodeM ?gF ?gy ?gI ?_)); (case gF => assumption); (case gy => assumption); (case gI => assumption))
  k_with "callWith ref" => (first | (refine callWith_m (f := 130) (YP.fr (by assumption) (by assumption)) (fun P => (k_keep P).2.2.1) ?_) | (refine callWith_m (f := 123) (YP.fr (by assumption) (by assumption)) (fun P => (k_keep P).2.1) ?_) | (refine callWith_y (by assumption) ?_))
  trivial
/-- a hand: what the call of it does with given octets -/
noncomputable def Hand (w : World) (f : Addr) (l : List Int) (r : Str) : Prop := ∀ (A : Around) (s : Shared) (E : Value → Shared → Prop) (t : Tok), YP w s.heap → Room A 2 → wpAny (model pw w) A (call (.ref f) [.bytes (byteArr l) t]) (Ret s fun v _ => ∃ t', v = .str r t') E s
theorem useH {h₀ : Heap} {L : Addr} {m : Str → Option Value} {news : List (Addr × Obj)} {Q : Value → Shared → Prop} {f : Addr} {l : List Int} {r : Str} {t : Tok} (F : Fr h₀ L s.heap m) (N : News h₀ L s.heap news) (y : YP w s.heap) (hr : Room A 2) (hh : Hand w f l r)
    (k : ∀ t' h' tk', Fr h₀ L h' m → News h₀ L h' news → Q (.str r t') { s with heap := h', toks := tk' }) : wpAny (model pw w) A (call (.ref f) [.bytes (byteArr l) t]) Q E s := useS F N (hh A s E t y hr) k
theorem rules_WkD_4 : True := by
  k_with "call ref" => ((first | (with_reducible refine' useB ?gF ?gN (c_decode ?gy ?gr ?gb ?go ?gz ?gne) ?_; (case gb => assumption); (case go => assumption); (case gz => assumption); (case gne => assumption)) | (with_reducible refine' useB ?gF ?gN (c_encode ?gy ?gr ?gb ?go ?gz) ?_; (case gb => assumption); (case go => assumption); (case gz => assumption)) | (with_reducible refine' useH ?gF ?gN ?gy ?gr ?gh ?_; (case gh => assumption))); (case gF => assumption); (case gN => assumption); (case gy => exact YP.fr (by assumption) (by assumption)); (case gr => exact Room.le (by assumption) (by decide)); intros)
  trivial
set_option maxHeartbeats 3000000 in
theorem c_process {b : Array UInt8} {l : List Int} {x dx f : Addr} {t : Tok} {rr : Str} (y : YP w s.heap) (hr : Room A 4) (I : InstOf s.heap x dx f) (hb : b = byteArr (foursI l)) (ho : Oct l) (hz : l.length ≤ 786000) (hne : 1 ≤ l.length)
    (hf : ∃ o fd, (H7 w.params).get? f = some o ∧ o.data = .func fd) (hh : Hand w f l rr) (hbad : ∀ y ∈ rr.cps.toList, Builtin._codecs.utf8Codec.bad y = false) (hsz : (encB Builtin._codecs.utf8Codec rr).size ≤ sizeLine) (hz2 : (encB Builtin._codecs.utf8Codec rr).size ≤ 786000) :
    wpAny (model pw w) A (call (.ref 116) [.ref x, .bytes b t]) (Ret s fun v _ => ∃ t', v = .bytes (byteArr (foursI (KBw.bInts (encB Builtin._codecs.utf8Codec rr)))) t') E s := by
  refine enterF (k := 3) (args := ⟨[.ref x, .bytes b t], []⟩) (binds := [(Str.ofString "self", .ref x), (Str.ofString "data", .bytes b t)]) "process" "_Authenticator.process" (mtAt 12 1) .none _ hr y (by rfl) (by rfl) ⟨_, _, _, by rfl, by rfl, by rfl⟩ (BindsTo.of_eq (by rfl)) (locs (by rfl)) ⟨by rfl, by rfl, by rfl, by rfl⟩ (fun h₁ r F N => ?_)
  walk_at "MINE"
  exact done_at (P := fun v _ => ∃ t', v = .bytes (byteArr (foursI (KBw.bInts (encB Builtin._codecs.utf8Codec rr)))) t') (by assumption) ⟨_, rfl⟩
end
end Mine
end P_WkD
section P_CompX
open PySem PySem.W PySem.Calls PyProof.Rows
set_option linter.unusedVariables false
set_option maxRecDepth 100000
namespace Mine
theorem ne_lt {a b c : Nat} (h : a < c) (h2 : c ≤ b) : a ≠ b := Nat.ne_of_lt (Nat.lt_of_lt_of_le h h2)
inductive RelAll (Rel : Value → Value → List (Addr × Obj) → Prop) : List Value → List Value → List (Addr × Obj) → Prop
  | nil : RelAll Rel [] [] []
  | snoc {xs ys new v y nw} : RelAll Rel xs ys new → Rel v y nw → RelAll Rel (xs ++ [v]) (ys ++ [y]) (nw ++ new)
inductive CI (Rel : Value → Value → List (Addr × Obj) → Prop) (xs : List Value) (s₁ : Shared) (h₀ : Heap) (C L ls : Addr) (oL : Obj) (news : List (Addr × Obj)) (n : Nat) (s' : Shared) : Prop
  | mk (i : Nat) (hp : Heap) (tk : Nat) (m' : Str → Option Value) (ys : List Value) (new : List (Addr × Obj)) (nD : Nat) (oI : Obj) : n = xs.length + 1 - i → i ≤ xs.length → s' = { s₁ with heap := hp, toks := tk } → Fr h₀ C hp m' →
      News h₀ C hp ((s₁.heap.objs.size, oI) :: (s₁.heap.objs.size + 1, listOf ys.toArray nD) :: (L, oL) :: (new ++ news)) → oI.cls = .type "list_iterator" → oI.data = .fields #[.ref ls, .int i 0] →
      (∀ p ∈ new, p.1 ≠ s₁.heap.objs.size ∧ p.1 ≠ s₁.heap.objs.size + 1 ∧ p.1 ≠ L) → RelAll Rel (xs.take i) ys new → CI Rel xs s₁ h₀ C L ls oL news n s'
theorem RelAll.len {Rel} {xs ys : List Value} {new : List (Addr × Obj)} (h : RelAll Rel xs ys new) : ys.length = xs.length := by
  induction h with
  | nil => rfl
  | snoc _ _ ih => rw [List.length_append, List.length_append, ih]; rfl
theorem fr_toC {h₀ h : Heap} {L C : Addr} {m m' : Str → Option Value} (F : Fr h₀ L h m) (hC : h.Ns C m') (hLC : h₀.objs.size ≤ C) : Fr h₀ C h m' := ⟨hC, F.keep, hLC⟩
theorem own_ok {M : Model} {A : Around} {E : Value → Shared → Prop} {s : Shared} {target : Expr} {I ls : Addr} {i : Int} {v : Value} {o : Obj} {Q : Unit → Shared → Prop} (ho : s.heap.get? I = some o) (hc : o.cls = .type "list_iterator") (hd : o.data = .fields #[.ref ls, .int i 0]) (hq : Q () s) : wpAny M A (letOwnedTupleGo target (.ref I) v) Q E s := by
  have key : wpAny M A (do
      let (.ref r, .ref a) := (Value.ref I, v) | return
      let o ← load r
      match o.cls, o.data with
      | .type n, .fields vs =>
        if ["enumerate", "zip", "dict_itemiterator", "dict_reverseitemiterator", "odict_iterator", "itertools.zip_longest", "itertools.pairwise"].contains n && vs[0]? == some (rawInt a) then
          rule "for.unpacks-the-owned-tuple"
          updateField r 0 .none
      | _, _ => pure ()) Q E s := by
    cases v with
    | ref a =>
      refine wpAny_bind (wpAny_load ho ?_)
      rw [hc, hd]
      dsimp only
      rw [if_neg (by simp)]
      exact wpAny_pure hq
    | _ => exact wpAny_pure hq
  cases target <;> first | exact key | exact wpAny_pure hq
theorem compLoopT {prog : Program} {w : World} {A : Around} {R : Result → Shared → Prop} {s : Shared} {elt target iter : Expr} {scope : Scope} {pos : Pos} {it acc : Value} {env : Env} (I : Nat → Shared → Prop)
    (turn : ∀ n s, I n s → wpAny (model prog w) A (pyNext it) (fun r s₁ => match r with
      | none => R (.ok .next) s₁
      | some v => wpAny (model prog w) A (letOwnedTupleGo target it v) (fun _ s₁ => wpAny (model prog w) A (assign target env v) (fun _ s₂ => wpAny (model prog w) A (eval elt env) (fun x s₃ =>
          wpAny (model prog w) A (call (.builtin "list.append") [acc, x]) (fun _ s₄ => ∃ m, m < n ∧ I m s₄) (notedBy (model prog w) A env fun e s' => R (.error e) s') s₃)
          (notedBy (model prog w) A env fun e s' => R (.error e) s') s₂) (notedBy (model prog w) A env fun e s' => R (.error e) s') s₁) (notedBy (model prog w) A env fun e s' => R (.error e) s') s₁) (notedBy (model prog w) A env fun e s' => R (.error e) s') s)
    (n : Nat) (h : I n s) :
    codeAny (model prog w) A (.compLoop (.ListComp elt [⟨target, iter, [], 0⟩] scope pos) 0 it acc env) R s := by
  refine codeAny_loop rfl I (fun n s hI => ?_) n h
  show wpAny _ _ ((compTurn (.ListComp elt [⟨target, iter, [], 0⟩] scope pos) 0 it acc env).onRaise (fun x => do noteFrame x env; theTreesLotGoes x)) _ _ s
  refine wpAny_noted ?_
  rw [compTurn_list1]
  refine wpAny_bind (wpAny_standAt (wpAny_bind (wpAny_mono (turn n s hI) (fun r s₁ h₁ => ?_) fun _ _ h' => h')))
  cases r with
  | none => exact wpAny_pure h₁
  | some v =>
    refine wpAny_bind (wpAny_mono h₁ (fun _ s₁' h₁' => ?_) fun _ _ h' => h')
    exact wpAny_bind (wpAny_mono h₁' (fun _ s₂ h₂ => wpAny_bind (wpAny_bind (wpAny_mono h₂ (fun x s₃ h₃ => wpAny_bind (wpAny_mono h₃
      (fun _ s₄ h₄ => wpAny_pure (wpAny_pure ⟨rfl, h₄⟩)) fun _ _ h' => h')) fun _ _ h' => h'))) fun _ _ h' => h')
inductive CompE (h₀ : Heap) (C : Addr) (led : List (Addr × Obj)) (Rel : Value → Value → List (Addr × Obj) → Prop) (v : Value) (s₁ : Shared) (y : Value) (s₃ : Shared) : Prop
  | mk (h₃ : Heap) (tk₃ : Nat) (m₃ : Str → Option Value) (new : List (Addr × Obj)) : s₃ = { s₁ with heap := h₃, toks := tk₃ } →
      Fr h₀ C h₃ m₃ →
      News h₀ C h₃ (new ++ led) →
      (∀ p ∈ new, ∀ q ∈ led, p.1 ≠ q.1) →
      Rel v y new → CompE h₀ C led Rel v s₁ y s₃
inductive CompHi (w : World) (A : Around) (h₀ : Heap) (env : Env) (scope : Scope) (target elt : Expr) (Rel : Value → Value → List (Addr × Obj) → Prop) (Q : Value → Shared → Prop) (xv : Value) (s₁ : Shared) : Prop
  | mk (ls : Addr) (xs : List Value) (k : Nat) (m : Str → Option Value) (news : List (Addr × Obj)) : xv = .ref ls →
      Fr h₀ env.locals s₁.heap m →
      News h₀ env.locals s₁.heap news →
      (ls, listOf xs.toArray k) ∈ news →
      xs.length ≤ 1000 →
      (∀ (i : Nat) (v : Value) C m' hp tk led, xs[i]? = some v → Fr h₀ C hp m' → News h₀ C hp led → (∀ p ∈ news, p ∈ led) →
        wpAny (model pw w) A (assign target (compEnv scope C env) v) (fun _ s₂ => wpAny (model pw w) A (eval elt (compEnv scope C env)) (CompE h₀ C led Rel v s₁) (fun _ _ => False) s₂) (fun _ _ => False) { s₁ with heap := hp, toks := tk }) →
      (∀ D ys new hp tk n, RelAll Rel xs ys new → Fr h₀ env.locals hp m → News h₀ env.locals hp ((D, listOf ys.toArray n) :: (new ++ news)) → (∀ p ∈ new ++ news, p.1 ≠ D) → Q (.ref D) { s₁ with heap := hp, toks := tk }) → CompHi w A h₀ env scope target elt Rel Q xv s₁
structure CompH (w : World) (A : Around) (h₀ : Heap) (env : Env) (scope : Scope) (target elt : Expr) (Rel : Value → Value → List (Addr × Obj) → Prop) (Q : Value → Shared → Prop) (xv : Value) (s₁ : Shared) : Prop where
  out : CompHi w A h₀ env scope target elt Rel Q xv s₁
inductive CompHAi (w : World) (A : Around) (h₀ : Heap) (env : Env) (scope : Scope) (target elt : Expr) (Rel : Value → Value → List (Addr × Obj) → Prop) (z : Str) (Q : Flow → Shared → Prop) (xv : Value) (s₁ : Shared) : Prop
  | mk (ls : Addr) (xs : List Value) (k : Nat) (m : Str → Option Value) (news : List (Addr × Obj)) : xv = .ref ls →
      Fr h₀ env.locals s₁.heap m →
      News h₀ env.locals s₁.heap news →
      (ls, listOf xs.toArray k) ∈ news →
      xs.length ≤ 1000 →
      (∀ (i : Nat) (v : Value) C m' hp tk led, xs[i]? = some v → Fr h₀ C hp m' → News h₀ C hp led → (∀ p ∈ news, p ∈ led) →
        wpAny (model pw w) A (assign target (compEnv scope C env) v) (fun _ s₂ => wpAny (model pw w) A (eval elt (compEnv scope C env)) (CompE h₀ C led Rel v s₁) (fun _ _ => False) s₂) (fun _ _ => False) { s₁ with heap := hp, toks := tk }) →
      (∀ D ys new hp tk n, RelAll Rel xs ys new → Fr h₀ env.locals hp (fun q => if q = z then some (.ref D) else m q) → News h₀ env.locals hp ((D, listOf ys.toArray n) :: (new ++ news)) → (∀ p ∈ new ++ news, p.1 ≠ D) → Q .next { s₁ with heap := hp, toks := tk }) → CompHAi w A h₀ env scope target elt Rel z Q xv s₁
structure CompHA (w : World) (A : Around) (h₀ : Heap) (env : Env) (scope : Scope) (target elt : Expr) (Rel : Value → Value → List (Addr × Obj) → Prop) (z : Str) (Q : Flow → Shared → Prop) (xv : Value) (s₁ : Shared) : Prop where
  out : CompHAi w A h₀ env scope target elt Rel z Q xv s₁
section
variable {w : World} {A : Around} {E : Value → Shared → Prop} {s : Shared}
theorem compA {env : Env} {target elt iter : Expr} {scope : Scope} {pos spos py : Pos} {z : Str} {Q : Flow → Shared → Prop} {h₀ : Heap} (Rel : Value → Value → List (Addr × Obj) → Prop) (hh : A.handled = none) (hsw : swapsWith (.ListComp elt [⟨target, iter, [], 0⟩] scope pos) (some (.Name z py)) spos.line env = pure true) (hy : env.kindOf z = some .local) (hpl : (env.scope.kind == .class || (env.scope.kind == .module && env.locals != env.globals)) = false)
    (hfree : ∀ y ∈ scope.names, y.2 ≠ .free) (hcell : ∀ y ∈ scope.names, y.2 ≠ .cell) (hkind : scope.kind = .function) (hnames : ∀ y ∈ scope.names, y.2 = .local → scope.names.lookup y.1 = some .local)
    (h : wpAny (model pw w) A (eval iter env) (CompHA w A h₀ env scope target elt Rel z Q) E s)
    (hs : ∀ x, foldedSetIterable iter env x = pure x := by intro _; rfl) :
    wpAny (model pw w) A (exec (.Assign [.Name z py] (.ListComp elt [⟨target, iter, [], 0⟩] scope pos) spos) env) Q E s := by
  rw [exec_Assign_Name_used _ _ _ _ hsw]
  refine wpAny_bind (wpAny_standAt (wpAny_bind ?_))
  show wpAny _ A (do let _ ← comprehension (.ListComp elt [⟨target, iter, [], 0⟩] scope pos) scope env _ (newList []) false (eval iter env) (some (assign (.Name z py) env))) _ _ s
  refine wpAny_bind (wpAny_mono (wpAny_comprehension_use (Q := fun _ s' => Q .next s') rfl hs hfree hkind hnames (wpAny_mono h (fun xv s₁ h₁ => ?_) fun _ _ e => e))
    (fun _ s' hq => wpAny_pure (wpAny_pure hq)) fun _ _ e => e)
  obtain ⟨ls, xs, k, m, news, rfl, F, N, hls, hlen, turn, done⟩ := h₁.out
  obtain ⟨oL, es, ep, hL, hL2⟩ := id F.ns
  have hlsN := N _ hls
  have hl : s₁.heap.IsList ls xs.toArray := ⟨_, hlsN.1, rfl, _, rfl⟩
  refine wpAny_pyIter_list hl ?_
  refine wpAny_newList (wpAny_newFunctionEnv hcell (by intro y hy; simp at hy) (fun h₁ hns₁ hsb₁ => ?_) hkind) (by decide)
  dsimp only at hns₁ hsb₁ ⊢
  have hz1 : (s₁.heap.push { cls := .type "list_iterator", data := .fields #[.ref ls, .int 0 0] }).objs.size = s₁.heap.objs.size + 1 := Heap.size_push ..
  generalize hH2 : (s₁.heap.push { cls := .type "list_iterator", data := .fields #[.ref ls, .int 0 0] }).push { cls := .type "list", data := .seq ([] : List Value).toArray } = H2 at hns₁ hsb₁ ⊢
  have hC : H2.objs.size = s₁.heap.objs.size + 2 := by rw [← hH2, Heap.size_push, hz1]
  rw [hz1]
  have hIC : s₁.heap.objs.size ≠ H2.objs.size := by (first | lia | omega)
  have hDC : s₁.heap.objs.size + 1 ≠ H2.objs.size := by (first | lia | omega)
  have hID : s₁.heap.objs.size ≠ s₁.heap.objs.size + 1 := by (first | lia | omega)
  have hDI : s₁.heap.objs.size + 1 ≠ s₁.heap.objs.size := by (first | lia | omega)
  have z1 : s₁.heap.objs.size ≤ s₁.heap.objs.size + 1 := by (first | lia | omega)
  have z2 : s₁.heap.objs.size ≤ H2.objs.size := by (first | lia | omega)
  have none_of : ∀ a, s₁.heap.objs.size ≤ a → h₀.get? a = none := fun a ha => by
    cases e : h₀.get? a with
    | none => rfl
    | some o' => exact absurd (Heap.lt_size (F.keep _ _ e)) (Nat.not_lt.mpr ha)
  have old : ∀ b o, s₁.heap.get? b = some o → h₁.get? b = some o := fun b o e => hsb₁.extBut b o (ne_lt (Heap.lt_size e) z2) (Heap.get?_push_of_some _ (hH2 ▸ Heap.get?_push_of_some _ (Heap.get?_push_of_some _ e)))
  have gI : h₁.get? s₁.heap.objs.size = some { cls := .type "list_iterator", data := .fields #[.ref ls, .int 0 0] } := hsb₁.extBut _ _ hIC (Heap.get?_push_of_some _ (hH2 ▸ Heap.get?_push_of_some _ (Heap.get?_push_size _ rfl)))
  have gD : h₁.get? (s₁.heap.objs.size + 1) = some (listOf ([] : List Value).toArray 0) := hsb₁.extBut _ _ hDC (Heap.get?_push_of_some _ (hH2 ▸ (by have := Heap.get?_push_size (h := s₁.heap.push { cls := .type "list_iterator", data := .fields #[.ref ls, .int 0 0] }) (o := { cls := .type "list", data := .seq ([] : List Value).toArray }) rfl; rwa [hz1] at this)))
  have hhs : h₀.objs.size ≤ H2.objs.size := Nat.le_of_lt (Nat.lt_of_le_of_lt F.above (Nat.lt_of_lt_of_le F.ns.lt z2))
  have lt_of_news : ∀ p ∈ news, p.1 < s₁.heap.objs.size := fun p hp => Heap.lt_size (N p hp).1
  have hLlt : env.locals < s₁.heap.objs.size := F.ns.lt
  -- the loop
  have loop : ∀ s₄ : Shared, s₄ = { s₁ with heap := h₁, toks := s₁.toks + ([] : List (Str × Value)).length } → codeAny (model pw w) A (.compLoop (.ListComp elt [⟨target, iter, [], 0⟩] scope pos) 0 (.ref s₁.heap.objs.size) (.ref (s₁.heap.objs.size + 1)) (compEnv scope H2.objs.size env))
      (fun r s' => match r with
        | .ok _ => wpAny (model pw w) A (assign (.Name z py) env (.ref (s₁.heap.objs.size + 1))) (fun _ s'' => ∃ m, s''.heap.Ns H2.objs.size m ∧ ∀ h', Heap.SameBut H2.objs.size s''.heap h' → Q .next { s'' with heap := h' }) E s'
        | .error x => ∃ m, s'.heap.Ns H2.objs.size m ∧ ∀ h', Heap.SameBut H2.objs.size s'.heap h' → wpAny (model pw w) A (passOn "comprehension.variables-let-go" x (compEnv scope H2.objs.size env)) (fun (_ : Value) s' => Q .next s') E { s' with heap := h' }) s₄ := by
    rintro s₄ rfl
    refine compLoopT (I := CI Rel xs s₁ h₀ H2.objs.size env.locals ls oL news) ?_ (xs.length + 1)
      ⟨0, h₁, _, _, [], [], 0, { cls := .type "list_iterator", data := .fields #[.ref ls, .int 0 0] }, rfl, Nat.zero_le _, rfl, ⟨hns₁, fun b o e => old b o (F.keep b o e), hhs⟩, ?_, rfl, rfl, (fun _ hp => nomatch hp), .nil⟩
    · rintro n s' ⟨i, hp, tk, m', ys, new, nD, oI, rfl, hi, rfl, F', N', hcI, hdI, hnew, hrel⟩
      have nI := N' _ (.head _)
      have nD' := N' _ (.tail _ (.head _))
      have hls' : (ls, listOf xs.toArray k) ∈ (s₁.heap.objs.size, oI) :: (s₁.heap.objs.size + 1, listOf ys.toArray nD) :: (env.locals, oL) :: (new ++ news) := .tail _ (.tail _ (.tail _ (List.mem_append_right _ hls)))
      have hit : hp.IsListIter s₁.heap.objs.size ls i := ⟨oI, nI.1, hcI, hdI⟩
      have hl' : hp.IsList ls xs.toArray := ⟨_, (N' _ hls').1, rfl, _, rfl⟩
      by_cases hlt : i < xs.length
      · refine wpAny_pyNext_list_item hit hl' (x := xs[i]) (by simp [hlt]) fun h₂ hit₂ hs₂ => ?_
        obtain ⟨oI2, gI2, hcI2, hdI2⟩ := hit₂
        have F2 : Fr h₀ H2.objs.size h₂ m' := F'.change hs₂ nI.2.1 nI.2.2
        have rest1 : ∀ p ∈ (s₁.heap.objs.size + 1, listOf ys.toArray nD) :: (env.locals, oL) :: (new ++ news), p.1 ≠ s₁.heap.objs.size := by
          intro p hp
          rcases List.mem_cons.mp hp with rfl | hp
          · exact hDI
          rcases List.mem_cons.mp hp with rfl | hp
          · exact Nat.ne_of_lt hLlt
          rcases List.mem_append.mp hp with hp | hp
          · exact (hnew p hp).1
          · exact ne_lt (lt_of_news p hp) (Nat.le_refl _)
        have N2 := News.setAt (own := []) N' (fun _ hp => nomatch hp) rest1 hs₂ gI2
        refine own_ok gI2 hcI2 hdI2 ?_
        refine wpAny_mono (turn i xs[i] H2.objs.size m' h₂ tk _ (by simp [hlt]) F2 N2 (fun p hp => .tail _ (.tail _ (.tail _ (List.mem_append_right _ hp))))) (fun _ s₂ hq => ?_) fun _ _ e => e.elim
        refine wpAny_mono hq (fun y s₃ hq3 => ?_) fun _ _ e => e.elim
        obtain ⟨h₃, tk₃, m₃, nw, rfl, F3, N3, hdis, hr⟩ := hq3
        have nD3 := N3 _ (List.mem_append_right _ (.tail _ (.head _)))
        refine wpAny_list_append_plain (items := ys.toArray) ⟨nD, nD3.1⟩ (fun h₄ hl₄ hs₄ => ?_) (by rw [List.size_toArray, hrel.len, List.length_take, sizeLine_eq]; (first | lia | omega))
        obtain ⟨nD4, gD4⟩ := hl₄
        have F4 : Fr h₀ H2.objs.size h₄ m₃ := F3.change hs₄ nD3.2.1 nD3.2.2
        refine ⟨xs.length + 1 - (i + 1), by (first | lia | omega), i + 1, h₄, tk₃, m₃, ys ++ [y], nw ++ new, nD4, oI2, rfl, hlt, rfl, F4, ?_, hcI2, hdI2, ?_, ?_⟩
        · have N3' : News h₀ H2.objs.size h₃ ((nw ++ [(s₁.heap.objs.size, oI2)]) ++ (s₁.heap.objs.size + 1, listOf ys.toArray nD) :: ((env.locals, oL) :: (new ++ news))) := by
            intro p hp
            refine N3 p ?_
            simp only [List.mem_append, List.mem_cons, List.not_mem_nil, or_false, List.nil_append] at hp ⊢
            rcases hp with (hp | hp) | hp | hp | hp | hp
            · exact .inl hp
            · exact .inr (.inl hp)
            · exact .inr (.inr (.inl hp))
            · exact .inr (.inr (.inr (.inl hp)))
            · exact .inr (.inr (.inr (.inr (.inl hp))))
            · exact .inr (.inr (.inr (.inr (.inr hp))))
          have N4 := News.setAt N3' (o' := listOf (ys ++ [y]).toArray nD4) ?_ ?_ hs₄ (by rw [gD4]; simp)
          · intro p hp
            refine N4 p ?_
            simp only [List.mem_append, List.mem_cons, List.not_mem_nil, or_false] at hp ⊢
            rcases hp with hp | hp | hp | (hp | hp) | hp
            · exact .inl (.inr hp)
            · exact .inr (.inl hp)
            · exact .inr (.inr (.inl hp))
            · exact .inl (.inl hp)
            · exact .inr (.inr (.inr (.inl hp)))
            · exact .inr (.inr (.inr (.inr hp)))
          · intro p hp
            rcases List.mem_append.mp hp with hp | hp
            · exact hdis p hp _ (.tail _ (.head _))
            · rw [List.mem_singleton.mp hp]; exact hID
          · intro p hp
            rcases List.mem_cons.mp hp with rfl | hp
            · exact ne_lt hLlt z1
            rcases List.mem_append.mp hp with hp | hp
            · exact (hnew p hp).2.1
            · exact ne_lt (lt_of_news p hp) z1
        · intro p hp
          rcases List.mem_append.mp hp with hp | hp
          · exact ⟨hdis p hp _ (.head _), hdis p hp _ (.tail _ (.head _)), hdis p hp _ (.tail _ (.tail _ (.head _)))⟩
          · exact hnew p hp
        · rw [List.take_succ_eq_append_getElem hlt]
          exact hrel.snoc hr
      · have hin : i = xs.length := by (first | lia | omega)
        refine wpAny_pyNext_list_end hh hit hl' (by simp [hin]) fun h₂ he₂ => ?_
        have nL := N' _ (.tail _ (.tail _ (.head _)))
        have FL : h₂.Ns env.locals m := ⟨oL, es, ep, he₂ _ _ (Nat.ne_of_lt hLlt) nL.1, hL2⟩
        refine wpAny_assign_Name (wpAny_storeName_local hy FL (fun h₅ hn₅ hs₅ => ?_) hpl)
        refine ⟨m', (F'.ns.extBut he₂ (Ne.symm nI.2.1)).sameBut hs₅ nL.2.1.symm, fun h₃ hs₃ => ?_⟩
        have keep3 : ∀ b o, b ≠ H2.objs.size → b ≠ s₁.heap.objs.size → b ≠ env.locals → hp.get? b = some o → h₃.get? b = some o := fun b o h1 h2 h3 e => hs₃.extBut b o h1 (hs₅.extBut b o h3 (he₂ b o h2 e))
        rw [List.take_of_length_le (by (first | lia | omega))] at hrel
        refine done _ ys new h₃ _ nD hrel ⟨hn₅.sameBut hs₃ nL.2.1, fun b o e => ?_, F.above⟩ (fun p hp => ?_) (fun p hp => ?_)
        · have hb := Heap.lt_size (F.keep b o e)
          exact keep3 b o (ne_lt hb z2) (ne_lt hb (Nat.le_refl _)) (ne_lt (Heap.lt_size e) F.above) (F'.keep b o e)
        · rcases List.mem_cons.mp hp with rfl | hp
          · refine ⟨keep3 _ _ nD'.2.1 hDI (ne_lt hLlt z1).symm nD'.1, (ne_lt hLlt z1).symm, nD'.2.2⟩
          · have np := N' p (.tail _ (.tail _ (.tail _ hp)))
            rcases List.mem_append.mp hp with hp | hp
            · exact ⟨keep3 _ _ np.2.1 (hnew p hp).1 (hnew p hp).2.2 np.1, (hnew p hp).2.2, np.2.2⟩
            · exact ⟨keep3 _ _ np.2.1 (ne_lt (lt_of_news p hp) (Nat.le_refl _)) (N p hp).2.1 np.1, (N p hp).2.1, np.2.2⟩
        · rcases List.mem_append.mp hp with hp | hp
          · exact (hnew p hp).2.1
          · exact ne_lt (lt_of_news p hp) z1
    · intro p hp
      rcases List.mem_cons.mp hp with rfl | hp
      · exact ⟨gI, hIC, none_of _ (Nat.le_refl _)⟩
      rcases List.mem_cons.mp hp with rfl | hp
      · exact ⟨gD, hDC, none_of _ (Nat.le_succ _)⟩
      rcases List.mem_cons.mp hp with rfl | hp
      · refine ⟨old _ _ hL, ne_lt hLlt z2, ?_⟩
        cases e : h₀.get? env.locals with
        | none => rfl
        | some o' => exact absurd (Heap.lt_size e) (Nat.not_lt.mpr F.above)
      · exact ⟨old _ _ (N p hp).1, ne_lt (lt_of_news p hp) z2, (N p hp).2.2⟩
  exact codeAny_compStart_list (loop _ rfl) (wpAny_pyIter_listiter (i := 0) ⟨_, gI, rfl, rfl⟩ (loop _ rfl))
theorem CompE.plain {h₀ h₃ : Heap} {C : Addr} {led : List (Addr × Obj)} {Rel : Value → Value → List (Addr × Obj) → Prop} {v y : Value} {s₁ : Shared} {tk₃ : Nat} {m₃ : Str → Option Value} (F : Fr h₀ C h₃ m₃) (N : News h₀ C h₃ led) (hr : Rel v y []) : CompE h₀ C led Rel v s₁ y { s₁ with heap := h₃, toks := tk₃ } :=
  ⟨_, _, _, [], rfl, F, N, (fun _ hp => nomatch hp), hr⟩
theorem ints_get {vs : List Value} {ns : List Int} (h : IntsAre vs ns) : ∀ {i : Nat} {v : Value}, vs[i]? = some v → ∃ c t, v = .int c t ∧ ns[i]? = some c := by
  induction h with
  | nil => intro i v e; simp at e
  | cons c t _ ih =>
    intro i v e
    cases i with
    | zero => simp at e; exact ⟨c, t, e.symm, rfl⟩
    | succ i => simp at e; obtain ⟨c', t', h1, h2⟩ := ih e; exact ⟨c', t', h1, by simpa using h2⟩
end
end Mine
end P_CompX
section P_CompF
open PySem PySem.W PySem.Calls PyProof.Rows
set_option linter.unusedVariables false
set_option maxRecDepth 100000
namespace Mine
inductive CompHFi (w : World) (A : Around) (h₀ : Heap) (env : Env) (scope : Scope) (cl : List (Str × Addr)) (target elt : Expr) (Rel : Value → Value → List (Addr × Obj) → Prop) (Q : Value → Shared → Prop) (xv : Value) (s₁ : Shared) : Prop
  | mk (ls : Addr) (xs : List Value) (k : Nat) (m : Str → Option Value) (news : List (Addr × Obj)) : xv = .ref ls →
      Fr h₀ env.locals s₁.heap m →
      News h₀ env.locals s₁.heap news →
      (ls, listOf xs.toArray k) ∈ news →
      xs.length ≤ 1000 →
      (∀ (i : Nat) (v : Value) C m' hp tk led, xs[i]? = some v → Fr h₀ C hp m' → News h₀ C hp led → (∀ p ∈ news, p ∈ led) →
        wpAny (model pw w) A (assign target (compEnvC scope cl C env) v) (fun _ s₂ => wpAny (model pw w) A (eval elt (compEnvC scope cl C env)) (CompE h₀ C led Rel v s₁) (fun _ _ => False) s₂) (fun _ _ => False) { s₁ with heap := hp, toks := tk }) →
      (∀ D ys new hp tk n, RelAll Rel xs ys new → Fr h₀ env.locals hp m → News h₀ env.locals hp ((D, listOf ys.toArray n) :: (new ++ news)) → (∀ p ∈ new ++ news, p.1 ≠ D) → Q (.ref D) { s₁ with heap := hp, toks := tk }) → CompHFi w A h₀ env scope cl target elt Rel Q xv s₁
structure CompHF (w : World) (A : Around) (h₀ : Heap) (env : Env) (scope : Scope) (cl : List (Str × Addr)) (target elt : Expr) (Rel : Value → Value → List (Addr × Obj) → Prop) (Q : Value → Shared → Prop) (xv : Value) (s₁ : Shared) : Prop where
  out : CompHFi w A h₀ env scope cl target elt Rel Q xv s₁
section
variable {w : World} {A : Around} {E : Value → Shared → Prop} {s : Shared}
theorem compF {env : Env} {cl : List (Str × Addr)} {target elt iter : Expr} {scope : Scope} {pos : Pos} {Q : Value → Shared → Prop} {h₀ : Heap} (Rel : Value → Value → List (Addr × Obj) → Prop) (hh : A.handled = none)
    (hclos : closureFor scope env = pure cl) (hcell : ∀ y ∈ scope.names, y.2 ≠ .cell) (hkind : scope.kind = .function) (hnames : ∀ y ∈ scope.names, y.2 = .local → scope.names.lookup y.1 = some .local)
    (h : wpAny (model pw w) A (eval iter env) (CompHF w A h₀ env scope cl target elt Rel Q) E s)
    (hs : ∀ x, foldedSetIterable iter env x = pure x := by intro _; rfl) :
    wpAny (model pw w) A (eval (.ListComp elt [⟨target, iter, [], 0⟩] scope pos) env) Q E s := by
  rw [eval_ListComp]
  refine wpAny_comprehension_free (use := none) rfl hs hclos hkind hnames (wpAny_mono h (fun xv s₁ h₁ => ?_) fun _ _ e => e)
  obtain ⟨ls, xs, k, m, news, rfl, F, N, hls, hlen, turn, done⟩ := h₁.out
  obtain ⟨oL, es, ep, hL, hL2⟩ := id F.ns
  have hlsN := N _ hls
  have hl : s₁.heap.IsList ls xs.toArray := ⟨_, hlsN.1, rfl, _, rfl⟩
  refine wpAny_pyIter_list hl ?_
  refine wpAny_newList (wpAny_newFunctionEnv hcell (by intro y hy; simp at hy) (fun h₁ hns₁ hsb₁ => ?_) hkind) (by decide)
  dsimp only at hns₁ hsb₁ ⊢
  have hz1 : (s₁.heap.push { cls := .type "list_iterator", data := .fields #[.ref ls, .int 0 0] }).objs.size = s₁.heap.objs.size + 1 := Heap.size_push ..
  generalize hH2 : (s₁.heap.push { cls := .type "list_iterator", data := .fields #[.ref ls, .int 0 0] }).push { cls := .type "list", data := .seq ([] : List Value).toArray } = H2 at hns₁ hsb₁ ⊢
  have hC : H2.objs.size = s₁.heap.objs.size + 2 := by rw [← hH2, Heap.size_push, hz1]
  rw [hz1]
  have hIC : s₁.heap.objs.size ≠ H2.objs.size := by (first | lia | omega)
  have hDC : s₁.heap.objs.size + 1 ≠ H2.objs.size := by (first | lia | omega)
  have hID : s₁.heap.objs.size ≠ s₁.heap.objs.size + 1 := by (first | lia | omega)
  have hDI : s₁.heap.objs.size + 1 ≠ s₁.heap.objs.size := by (first | lia | omega)
  have z1 : s₁.heap.objs.size ≤ s₁.heap.objs.size + 1 := by (first | lia | omega)
  have z2 : s₁.heap.objs.size ≤ H2.objs.size := by (first | lia | omega)
  have none_of : ∀ a, s₁.heap.objs.size ≤ a → h₀.get? a = none := fun a ha => by
    cases e : h₀.get? a with
    | none => rfl
    | some o' => exact absurd (Heap.lt_size (F.keep _ _ e)) (Nat.not_lt.mpr ha)
  have old : ∀ b o, s₁.heap.get? b = some o → h₁.get? b = some o := fun b o e => hsb₁.extBut b o (ne_lt (Heap.lt_size e) z2) (Heap.get?_push_of_some _ (hH2 ▸ Heap.get?_push_of_some _ (Heap.get?_push_of_some _ e)))
  have gI : h₁.get? s₁.heap.objs.size = some { cls := .type "list_iterator", data := .fields #[.ref ls, .int 0 0] } := hsb₁.extBut _ _ hIC (Heap.get?_push_of_some _ (hH2 ▸ Heap.get?_push_of_some _ (Heap.get?_push_size _ rfl)))
  have gD : h₁.get? (s₁.heap.objs.size + 1) = some (listOf ([] : List Value).toArray 0) := hsb₁.extBut _ _ hDC (Heap.get?_push_of_some _ (hH2 ▸ (by have := Heap.get?_push_size (h := s₁.heap.push { cls := .type "list_iterator", data := .fields #[.ref ls, .int 0 0] }) (o := { cls := .type "list", data := .seq ([] : List Value).toArray }) rfl; rwa [hz1] at this)))
  have hhs : h₀.objs.size ≤ H2.objs.size := Nat.le_of_lt (Nat.lt_of_le_of_lt F.above (Nat.lt_of_lt_of_le F.ns.lt z2))
  have lt_of_news : ∀ p ∈ news, p.1 < s₁.heap.objs.size := fun p hp => Heap.lt_size (N p hp).1
  have hLlt : env.locals < s₁.heap.objs.size := F.ns.lt
  -- the loop
  have loop : ∀ s₄ : Shared, s₄ = { s₁ with heap := h₁, toks := s₁.toks + ([] : List (Str × Value)).length } → codeAny (model pw w) A (.compLoop (.ListComp elt [⟨target, iter, [], 0⟩] scope pos) 0 (.ref s₁.heap.objs.size) (.ref (s₁.heap.objs.size + 1)) (compEnvC scope cl H2.objs.size env))
      (compPost (model pw w) A E none Q (.ref (s₁.heap.objs.size + 1)) H2.objs.size) s₄ := by
    rintro s₄ rfl
    refine compLoopT (I := CI Rel xs s₁ h₀ H2.objs.size env.locals ls oL news) ?_ (xs.length + 1)
      ⟨0, h₁, _, _, [], [], 0, { cls := .type "list_iterator", data := .fields #[.ref ls, .int 0 0] }, rfl, Nat.zero_le _, rfl, ⟨hns₁, fun b o e => old b o (F.keep b o e), hhs⟩, ?_, rfl, rfl, (fun _ hp => nomatch hp), .nil⟩
    · rintro n s' ⟨i, hp, tk, m', ys, new, nD, oI, rfl, hi, rfl, F', N', hcI, hdI, hnew, hrel⟩
      have nI := N' _ (.head _)
      have nD' := N' _ (.tail _ (.head _))
      have hls' : (ls, listOf xs.toArray k) ∈ (s₁.heap.objs.size, oI) :: (s₁.heap.objs.size + 1, listOf ys.toArray nD) :: (env.locals, oL) :: (new ++ news) := .tail _ (.tail _ (.tail _ (List.mem_append_right _ hls)))
      have hit : hp.IsListIter s₁.heap.objs.size ls i := ⟨oI, nI.1, hcI, hdI⟩
      have hl' : hp.IsList ls xs.toArray := ⟨_, (N' _ hls').1, rfl, _, rfl⟩
      by_cases hlt : i < xs.length
      · refine wpAny_pyNext_list_item hit hl' (x := xs[i]) (by simp [hlt]) fun h₂ hit₂ hs₂ => ?_
        obtain ⟨oI2, gI2, hcI2, hdI2⟩ := hit₂
        have F2 : Fr h₀ H2.objs.size h₂ m' := F'.change hs₂ nI.2.1 nI.2.2
        have rest1 : ∀ p ∈ (s₁.heap.objs.size + 1, listOf ys.toArray nD) :: (env.locals, oL) :: (new ++ news), p.1 ≠ s₁.heap.objs.size := by
          intro p hp
          rcases List.mem_cons.mp hp with rfl | hp
          · exact hDI
          rcases List.mem_cons.mp hp with rfl | hp
          · exact Nat.ne_of_lt hLlt
          rcases List.mem_append.mp hp with hp | hp
          · exact (hnew p hp).1
          · exact ne_lt (lt_of_news p hp) (Nat.le_refl _)
        have N2 := News.setAt (own := []) N' (fun _ hp => nomatch hp) rest1 hs₂ gI2
        refine own_ok gI2 hcI2 hdI2 ?_
        refine wpAny_mono (turn i xs[i] H2.objs.size m' h₂ tk _ (by simp [hlt]) F2 N2 (fun p hp => .tail _ (.tail _ (.tail _ (List.mem_append_right _ hp))))) (fun _ s₂ hq => ?_) fun _ _ e => e.elim
        refine wpAny_mono hq (fun y s₃ hq3 => ?_) fun _ _ e => e.elim
        obtain ⟨h₃, tk₃, m₃, nw, rfl, F3, N3, hdis, hr⟩ := hq3
        have nD3 := N3 _ (List.mem_append_right _ (.tail _ (.head _)))
        refine wpAny_list_append_plain (items := ys.toArray) ⟨nD, nD3.1⟩ (fun h₄ hl₄ hs₄ => ?_) (by rw [List.size_toArray, hrel.len, List.length_take, sizeLine_eq]; (first | lia | omega))
        obtain ⟨nD4, gD4⟩ := hl₄
        have F4 : Fr h₀ H2.objs.size h₄ m₃ := F3.change hs₄ nD3.2.1 nD3.2.2
        refine ⟨xs.length + 1 - (i + 1), by (first | lia | omega), i + 1, h₄, tk₃, m₃, ys ++ [y], nw ++ new, nD4, oI2, rfl, hlt, rfl, F4, ?_, hcI2, hdI2, ?_, ?_⟩
        · have N3' : News h₀ H2.objs.size h₃ ((nw ++ [(s₁.heap.objs.size, oI2)]) ++ (s₁.heap.objs.size + 1, listOf ys.toArray nD) :: ((env.locals, oL) :: (new ++ news))) := by
            intro p hp
            refine N3 p ?_
            simp only [List.mem_append, List.mem_cons, List.not_mem_nil, or_false, List.nil_append] at hp ⊢
            rcases hp with (hp | hp) | hp | hp | hp | hp
            · exact .inl hp
            · exact .inr (.inl hp)
            · exact .inr (.inr (.inl hp))
            · exact .inr (.inr (.inr (.inl hp)))
            · exact .inr (.inr (.inr (.inr (.inl hp))))
            · exact .inr (.inr (.inr (.inr (.inr hp))))
          have N4 := News.setAt N3' (o' := listOf (ys ++ [y]).toArray nD4) ?_ ?_ hs₄ (by rw [gD4]; simp)
          · intro p hp
            refine N4 p ?_
            simp only [List.mem_append, List.mem_cons, List.not_mem_nil, or_false] at hp ⊢
            rcases hp with hp | hp | hp | (hp | hp) | hp
            · exact .inl (.inr hp)
            · exact .inr (.inl hp)
            · exact .inr (.inr (.inl hp))
            · exact .inl (.inl hp)
            · exact .inr (.inr (.inr (.inl hp)))
            · exact .inr (.inr (.inr (.inr hp)))
          · intro p hp
            rcases List.mem_append.mp hp with hp | hp
            · exact hdis p hp _ (.tail _ (.head _))
            · rw [List.mem_singleton.mp hp]; exact hID
          · intro p hp
            rcases List.mem_cons.mp hp with rfl | hp
            · exact ne_lt hLlt z1
            rcases List.mem_append.mp hp with hp | hp
            · exact (hnew p hp).2.1
            · exact ne_lt (lt_of_news p hp) z1
        · intro p hp
          rcases List.mem_append.mp hp with hp | hp
          · exact ⟨hdis p hp _ (.head _), hdis p hp _ (.tail _ (.head _)), hdis p hp _ (.tail _ (.tail _ (.head _)))⟩
          · exact hnew p hp
        · rw [List.take_succ_eq_append_getElem hlt]
          exact hrel.snoc hr
      · have hin : i = xs.length := by (first | lia | omega)
        refine wpAny_pyNext_list_end hh hit hl' (by simp [hin]) fun h₂ he₂ => ?_
        show ∃ m, Heap.Ns _ _ m ∧ ∀ h', Heap.SameBut _ _ h' → Q _ _
        refine ⟨m', F'.ns.extBut he₂ (Ne.symm nI.2.1), fun h₃ hs₃ => ?_⟩
        have keep3 : ∀ b o, b ≠ H2.objs.size → b ≠ s₁.heap.objs.size → hp.get? b = some o → h₃.get? b = some o := fun b o h1 h2 e => hs₃.extBut b o h1 (he₂ b o h2 e)
        rw [List.take_of_length_le (by (first | lia | omega))] at hrel
        refine done _ ys new h₃ tk nD hrel ⟨?_, fun b o e => ?_, F.above⟩ (fun p hp => ?_) (fun p hp => ?_)
        · have nL := N' _ (.tail _ (.tail _ (.head _)))
          exact ⟨oL, es, ep, keep3 _ _ nL.2.1 (Nat.ne_of_lt hLlt) nL.1, hL2⟩
        · have hb := Heap.lt_size (F.keep b o e)
          exact keep3 b o (ne_lt hb z2) (ne_lt hb (Nat.le_refl _)) (F'.keep b o e)
        · rcases List.mem_cons.mp hp with rfl | hp
          · refine ⟨keep3 _ _ nD'.2.1 hDI nD'.1, (ne_lt hLlt z1).symm, nD'.2.2⟩
          · have np := N' p (.tail _ (.tail _ (.tail _ hp)))
            rcases List.mem_append.mp hp with hp | hp
            · exact ⟨keep3 _ _ np.2.1 (hnew p hp).1 np.1, (hnew p hp).2.2, np.2.2⟩
            · exact ⟨keep3 _ _ np.2.1 (ne_lt (lt_of_news p hp) (Nat.le_refl _)) np.1, (N p hp).2.1, np.2.2⟩
        · rcases List.mem_append.mp hp with hp | hp
          · exact (hnew p hp).2.1
          · exact ne_lt (lt_of_news p hp) z1
    · intro p hp
      rcases List.mem_cons.mp hp with rfl | hp
      · exact ⟨gI, hIC, none_of _ (Nat.le_refl _)⟩
      rcases List.mem_cons.mp hp with rfl | hp
      · exact ⟨gD, hDC, none_of _ (Nat.le_succ _)⟩
      rcases List.mem_cons.mp hp with rfl | hp
      · refine ⟨old _ _ hL, ne_lt hLlt z2, ?_⟩
        cases e : h₀.get? env.locals with
        | none => rfl
        | some o' => exact absurd (Heap.lt_size e) (Nat.not_lt.mpr F.above)
      · exact ⟨old _ _ (N p hp).1, ne_lt (lt_of_news p hp) z2, (N p hp).2.2⟩
  exact codeAny_compStart_list (loop _ rfl) (wpAny_pyIter_listiter (i := 0) ⟨_, gI, rfl, rfl⟩ (loop _ rfl))
theorem relabel_id {scope : Scope} {env : Env} (hfree : ∀ y ∈ scope.names, y.2 ≠ .free) : relabel scope env = scope := by
  have h : (scope.names.map fun (n, k) => if (k == NameKind.free && env.scope.kind == .function && env.kindOf n == some .cell) then (n, NameKind.cell) else (n, k)) = scope.names := by
    refine (List.map_congr_left fun y hy => ?_).trans (List.map_id _)
    have hk : (y.2 == NameKind.free) = false := beq_eq_false_iff_ne.mpr (hfree y hy)
    show (if (y.2 == NameKind.free && _ && _) = true then _ else (y.1, y.2)) = y
    rw [hk]; rfl
  unfold relabel
  rw [h]
theorem compX {env : Env} {target elt iter : Expr} {scope : Scope} {pos : Pos} {Q : Value → Shared → Prop} {h₀ : Heap} (Rel : Value → Value → List (Addr × Obj) → Prop) (hh : A.handled = none)
    (hfree : ∀ y ∈ scope.names, y.2 ≠ .free) (hcell : ∀ y ∈ scope.names, y.2 ≠ .cell) (hkind : scope.kind = .function) (hnames : ∀ y ∈ scope.names, y.2 = .local → scope.names.lookup y.1 = some .local)
    (h : wpAny (model pw w) A (eval iter env) (CompH w A h₀ env scope target elt Rel Q) E s)
    (hs : ∀ x, foldedSetIterable iter env x = pure x := by intro _; rfl) :
    wpAny (model pw w) A (eval (.ListComp elt [⟨target, iter, [], 0⟩] scope pos) env) Q E s := by
  have e : ∀ C, compEnvC scope [] C env = compEnv scope C env := fun C => by
    unfold compEnvC compEnv
    rw [relabel_id hfree]
  refine compF (h₀ := h₀) Rel hh (cl := []) (closureFor_none hfree) hcell hkind hnames (wpAny_mono h (fun xv s₁ h₁ => ?_) fun _ _ e => e) hs
  obtain ⟨ls, xs, k, m, news, hx, F, N, hls, hlen, turn, done⟩ := h₁.out
  exact ⟨⟨ls, xs, k, m, news, hx, F, N, hls, hlen, fun i v C m' hp tk led a b c d => by rw [e]; exact turn i v C m' hp tk led a b c d, done⟩⟩
end
end Mine
end P_CompF
section P_WkE
open PySem PySem.W PySem.Calls PyProof.Rows
set_option linter.unusedVariables false
set_option maxRecDepth 100000
namespace Mine
theorem gX {w : World} {M : Model} {A : Around} {E : Value → Shared → Prop} {s : Shared} {env : Env} {h₀ : Heap} {L : Addr} {m : Str → Option Value} {x : Str} {pos : Pos} {v : Value} {Q : Value → Shared → Prop} (F : Fr h₀ L s.heap m) (y : YP w h₀) (e : mg w.params x = some v) (h : Q v s)
    (hk : env.scope.kind = .function) (hx : env.kindOf x = some .globalImplicit) (hg : env.globals = mainGlobals) (hd : (x == ("__debug__" : Str)) = false) : wpAny M A (eval (.Name x pos) env) Q E s :=
  Name_function_global hk hx (loadGlobal_global (by rw [hg]; exact (nsG y).keeps F.keep) e h) hd
theorem bX {w : World} {M : Model} {A : Around} {E : Value → Shared → Prop} {s : Shared} {env : Env} {h₀ : Heap} {L : Addr} {m : Str → Option Value} {x : Str} {pos : Pos} {v : Value} {Q : Value → Shared → Prop} (F : Fr h₀ L s.heap m) (y : YP w h₀) (e : mg w.params x = none) (e2 : mb w.params x = some v) (h : Q v s)
    (hk : env.scope.kind = .function) (hx : env.kindOf x = some .globalImplicit) (hg : env.globals = mainGlobals) (hb : env.builtins = builtinsNs) (hd : (x == ("__debug__" : Str)) = false) : wpAny M A (eval (.Name x pos) env) Q E s :=
  Name_function_global hk hx (loadGlobal_builtin (by rw [hg]; exact (nsG y).keeps F.keep) e (by rw [hb]; exact (nsB y).keeps F.keep) e2 h) hd
theorem lX {M : Model} {A : Around} {E : Value → Shared → Prop} {s : Shared} {cn : Str} {cs : Scope} {L a : Addr} {cd : Value} {h₀ : Heap} {m : Str → Option Value} {x : Str} {pos : Pos} {v : Value} {Q : Value → Shared → Prop} (F : Fr h₀ L s.heap m) (hv : m x = some v) (h : Q v s)
    (hk : cs.kind = .function) (hx : (envOfC cn cs L a cd).kindOf x = some .local) (hd : (x == ("__debug__" : Str)) = false) : wpAny M A (eval (.Name x pos) (envOfC cn cs L a cd)) Q E s := wpAny_Name (wpAny_loadName_local (env := envOfC cn cs L a cd) hk hx F.ns hv h) hd
theorem lC {M : Model} {A : Around} {E : Value → Shared → Prop} {s : Shared} {cs : Scope} {C : Addr} {env : Env} {h₀ : Heap} {m : Str → Option Value} {x : Str} {pos : Pos} {v : Value} {Q : Value → Shared → Prop} (F : Fr h₀ C s.heap m) (hv : m x = some v) (h : Q v s)
    (hk : cs.kind = .function) (hx : (compEnv cs C env).kindOf x = some .local) (hd : (x == ("__debug__" : Str)) = false) : wpAny M A (eval (.Name x pos) (compEnv cs C env)) Q E s := wpAny_Name (wpAny_loadName_local (env := compEnv cs C env) hk hx F.ns hv h) hd
theorem cX {M : Model} {A : Around} {E : Value → Shared → Prop} {s : Shared} {env : Env} {h₀ : Heap} {L c : Addr} {o : Obj} {news : List (Addr × Obj)} {x : Str} {pos : Pos} {v : Value} {Q : Value → Shared → Prop} (N : News h₀ L s.heap news) (hc : env.cells.lookup x = some c) (hm : (c, o) ∈ news) (hd : o.data = .cell (some v)) (h : Q v s)
    (hk : env.scope.kind = .function) (hx : env.kindOf x = some .cell) (hb : (x == ("__debug__" : Str)) = false) : wpAny M A (eval (.Name x pos) env) Q E s := wpAny_Name (wpAny_loadName_cell hk hx hc ⟨o, N.get hm, hd⟩ h) hb
theorem sX {M : Model} {A : Around} {E : Value → Shared → Prop} {s : Shared} {cn : Str} {cs : Scope} {L a : Addr} {cd : Value} {h₀ : Heap} {m : Str → Option Value} {x : Str} {v : Value} {news : List (Addr × Obj)} {Q : Unit → Shared → Prop} (F : Fr h₀ L s.heap m) (N : News h₀ L s.heap news)
    (h : ∀ h', Fr h₀ L h' (fun y => if y = x then some v else m y) → News h₀ L h' news → Q () { s with heap := h', toks := s.toks + 1 })
    (hk : cs.kind = .function) (hx : (envOfC cn cs L a cd).kindOf x = some .local) : wpAny M A (storeName (envOfC cn cs L a cd) x v) Q E s :=
  wpAny_storeName_local (env := envOfC cn cs L a cd) hx F.ns (fun h' hn hs => h h' (F.set hn hs) (N.set hs)) (by show (cs.kind == .class || (cs.kind == .module && _)) = false; rw [hk]; rfl)
theorem sC {M : Model} {A : Around} {E : Value → Shared → Prop} {s : Shared} {cs : Scope} {C : Addr} {env : Env} {h₀ : Heap} {m : Str → Option Value} {x : Str} {v : Value} {news : List (Addr × Obj)} {Q : Unit → Shared → Prop} (F : Fr h₀ C s.heap m) (N : News h₀ C s.heap news)
    (h : ∀ h', Fr h₀ C h' (fun y => if y = x then some v else m y) → News h₀ C h' news → Q () { s with heap := h', toks := s.toks + 1 })
    (hk : cs.kind = .function) (hx : (compEnv cs C env).kindOf x = some .local) : wpAny M A (storeName (compEnv cs C env) x v) Q E s :=
  wpAny_storeName_local (env := compEnv cs C env) hx F.ns (fun h' hn hs => h h' (F.set hn hs) (N.set hs)) (by show (cs.kind == .class || (cs.kind == .module && _)) = false; rw [hk]; rfl)
theorem rules_WkE_1 : True := by
  k_with_none
  k_with "call type:type" => ((with_reducible refine' call_type_of (Tx := "bytes") (typeIs_bytes _ _ _) ?hnb ?_); (case hnb => decide))
  k_with "And" => ((with_reducible show YP _ _ ∧ wpAny _ _ (call (Value.ref _) _ _) _ _ _); refine' And.intro ?gA ?_; (case gA => exact YP.fr (by assumption) (by assumption)))
  k_with "getMethod ref" => (refine' listMethod_K ?gN ?gm PySem.F.slot_list_append PySem.F.type_list_append ?_; (case gN => assumption); (case gm => k_mem))
  k_with "call builtin:list.append" => ((refine' append_K ?gF ?gN ?gU ?_ ?gz; (case gF => assumption); (case gN => assumption); (case gU => k_upd); (case gz => first | assumption | (simp only [Array.size_push, List.size_toArray, List.length_append, List.length_cons, List.length_nil, sizeLine_eq] at *; (first | lia | omega)) | size_fits)); intro _ _ _)
  k_with "call ref" => ((first
  | (with_reducible refine' useI ?gF ?gN (c_b64_value ?gy ?gr) ?_)
  | (with_reducible refine' useB ?gF ?gN (c_ascii_buffer ?gy ?gr) ?_)
  | (with_reducible refine' useB ?gF ?gN (c_buffer ?gy ?gr) ?_)
  | (with_reducible refine' useT ?gF ?gN (c_truth ?gy ?gr) ?_)); (case gF => assumption); (case gN => assumption); (case gy => exact YP.fr (by assumption) (by assumption)); (case gr => exact Room.le (by assumption) (by decide)); intros)
  k_with "eval Name" => (first | ((first | (with_reducible refine' lX ?gF ?gv ?_ ?gk ?gl ?gd) | (with_reducible refine' lC ?gF ?gv ?_ ?gk ?gl ?gd)); (case gF => assumption); (case gl => with_unfolding_all exact rfl); (case gv => first | (with_reducible assumption) | (with_unfolding_all exact rfl)); (case gk => with_unfolding_all exact rfl); (case gd => with_unfolding_all exact rfl)) | ((with_reducible refine' lX ?gF ?gv ?_ ?gk ?gl ?gd); (case gF => assumption); (case gl => with_unfolding_all exact rfl); (case gv => first | (with_reducible assumption) | (with_unfolding_all exact rfl)); (case gk => with_unfolding_all exact rfl); (case gd => with_unfolding_all exact rfl)) | ((first | (with_reducible refine' gX ?gF ?gy (g_law_piece _) ?_ ?gk ?gx ?gg ?gd) | (with_reducible refine' gX ?gF ?gy (g_law_rows _) ?_ ?gk ?gx ?gg ?gd) | (with_reducible refine' gX ?gF ?gy (g_law_in_fours _) ?_ ?gk ?gx ?gg ?gd) | (with_reducible refine' gX ?gF ?gy (g_law_prepares _) ?_ ?gk ?gx ?gg ?gd) | (with_reducible refine' gX ?gF ?gy (g_law_sends _) ?_ ?gk ?gx ?gg ?gd) | (with_reducible refine' gX ?gF ?gy (g_Authenticator _) ?_ ?gk ?gx ?gg ?gd)); (case gF => assumption); (case gy => assumption); (case gk => with_unfolding_all exact rfl); (case gx => with_unfolding_all exact rfl); (case gg => with_unfolding_all exact rfl); (case gd => with_unfolding_all exact rfl)) | ((first | (with_reducible refine' bX ?gF ?gy (n_range _) (b_range _) ?_ ?gk ?gx ?gg ?gb ?gd) | (with_reducible refine' bX ?gF ?gy (n_len _) (b_len _) ?_ ?gk ?gx ?gg ?gb ?gd)); (case gF => assumption); (case gy => assumption); (case gk => with_unfolding_all exact rfl); (case gx => with_unfolding_all exact rfl); (case gg => with_unfolding_all exact rfl); (case gb => with_unfolding_all exact rfl); (case gd => with_unfolding_all exact rfl)))
  k_with "storeName" => ((first | (with_reducible refine' sX ?gF ?gN ?_ ?gk ?gx) | (with_reducible refine' sC ?gF ?gN ?_ ?gk ?gx)); (case gF => assumption); (case gN => assumption); (case gk => with_unfolding_all exact rfl); (case gx => with_unfolding_all exact rfl); intro _ _ _)
  k_with "ONE" => walk1
  k_with "MINEL" => repeat' ((fail_if_success (with_reducible show wpAny _ _ (eval (Expr.ListComp _ _ _ _) _) _ _ _)); (fail_if_success (with_reducible show InvEndN _ _ _ _ _ _ _)); (fail_if_success (with_reducible show WNext _ _ _ _ _ _ _ _ _ _ _)); (fail_if_success (with_reducible show wpAny _ _ (exec (Stmt.While _ _ _ _) _) _ _ _)); (fail_if_success (with_reducible show wpAny _ _ (exec (Stmt.For _ _ _ _ _) _) _ _ _)); walk1)
  trivial
theorem sl8 {h₀ : Heap} {L l : Addr} {m : Str → Option Value} {news : List (Addr × Obj)} {value slice : PySem.Expr} {vs : List Value} {ns : List Int} {u : Tok} {w : World} {A : Around} {E : Value → Shared → Prop} {s : Shared} {Q : Value → Shared → Prop} (F : Fr h₀ L s.heap m) (N : News h₀ L s.heap news) (hl : h₀.IsList l vs.toArray) (hi : IntsAre vs ns) (hn : ns.length ≤ 63)
    (h : ∀ D ws h', Fr h₀ L h' m → News h₀ L h' ((D, listOf (List.toArray ws) 0) :: news) → IntsAre ws (ns.take 8) → Q (.ref D) { s with heap := h' })
    (hs : subscripted slice false (.ref l) (.ref s.heap.objs.size) = operate [.ref s.heap.objs.size, .ref l] (getItem (.ref l) (.ref s.heap.objs.size)) := by with_unfolding_all rfl) (ht : ∀ r, letTemporaryGo value (.ref l) r = pure () := by intro _; with_unfolding_all rfl) :
    wpAny (model pw w) A (subscriptTail value slice (.ref l) (.ref s.heap.objs.size)) Q E { s with heap := s.heap.push { cls := .type "slice", data := .fields #[.none, .int 8 u, .none] } } :=
  kmk_slice_ints (c := (ns.take 8).length) F N (by obtain ⟨o, e, c, d⟩ := hl; exact ⟨o, F.keep _ _ e, c, d⟩) (by constructor) (by constructor) hi (kmk_upto (y := 8) hi (by decide)) rfl (fun D ws h' F' N' _ hi' _ _ => h D ws h' F' N' hi') hs ht (by rw [List.size_toArray, hi.length, sizeLine_eq]; (first | lia | omega))
theorem rules_WkE_2 : True := by
  k_with "subscriptTail" => ((show wpAny _ _ (subscriptTail _ (Expr.Slice _ _ none _) (Value.ref _) (Value.ref _)) _ _ _); (with_reducible rename Fr _ _ _ _ => gF); (with_reducible rename News _ _ _ _ => gN); (refine sl8 (s := ⟨_, _, _, _, _⟩) gF gN (by assumption) (by assumption) (by assumption) ?_); intro _ _ _ _ _ _)
  k_with "subscriptTail Name Slice ref ref" => walk_at "subscriptTail"
  trivial
theorem intsAre_app : ∀ {xs ys : List Value} {ms : List Int}, IntsAre (xs ++ ys) ms → ∃ a b, ms = a ++ b ∧ IntsAre xs a ∧ IntsAre ys b
  | [], ys, ms, h => ⟨[], ms, rfl, .nil, h⟩
  | x :: xs, ys, ms, h => by
    cases h with
    | cons c t h =>
      obtain ⟨a, b, rfl, h1, h2⟩ := intsAre_app h
      exact ⟨_, b, rfl, .cons c t h1, h2⟩
theorem relInts {xs ys : List Value} {new : List (Addr × Obj)} {f : Int → Int} (h : RelAll (fun v y nw => ∃ (c : Int) (t u : Tok), v = .int c t ∧ y = .int (f c) u ∧ nw = []) xs ys new) : ∀ {ms : List Int}, IntsAre xs ms → new = [] ∧ IntsAre ys (ms.map f) := by
  induction h with
  | nil => intro ms hm; cases hm; exact ⟨rfl, .nil⟩
  | snoc h1 h2 ih =>
    intro ms hm
    obtain ⟨c, t, u, rfl, rfl, rfl⟩ := h2
    obtain ⟨ms1, ms2, rfl, a, b⟩ := intsAre_app hm
    cases b with
    | cons c' t' b =>
      cases b
      obtain ⟨e1, e2⟩ := ih a
      exact ⟨by rw [e1]; rfl, by rw [List.map_append]; exact e2.append (.cons _ _ .nil)⟩
theorem rules_WkE_3 : True := by
  k_with "binaryOp Pow int int" => (refine pow_int_small (by decide) (by decide) (by decide) ?_)
  k_with "binaryOp Mod int int" => (refine fmodE (by decide) ?_)
  trivial
noncomputable abbrev EL (L a : Addr) (cd : Value) : Env := envOfC "law" (fnScope (stAt 29)) L a cd
section
variable {w : World} {A : Around} {E : Value → Shared → Prop} {s : Shared}
noncomputable def cellsOf (ns : List Int) : List Int := (ns.take 8).map (fun x => x % 1000000) ++ [5, 1, 0, 40, 2, 105, 1, 0, 0, 6, 3, 0, 10, 22, 7, 29, 17]
set_option maxHeartbeats 3000000 in
theorem law1 {h₀ : Heap} {L a ls : Addr} {cd : Value} {m : Str → Option Value} {vs : List Value} {ns : List Int} {Q : Flow → Shared → Prop} {c0 : Obj} (y : YP w h₀) (hr : Room A 6) (F : Fr h₀ L s.heap m) (N : News h₀ L s.heap [(L + 1, c0)]) (hv : m "script" = some (.ref ls)) (hl : h₀.IsList ls vs.toArray) (hi : IntsAre vs ns) (hn : ns.length ≤ 63)
    (k : ∀ D us n h' tk, IntsAre us (cellsOf ns) → Fr h₀ L h' (fun y => if y = Str.ofString "cells" then some (.ref D) else m y) → News h₀ L h' [(D, listOf us.toArray n), (L + 1, c0)] → wpAny (model pw w) A (execs ((fnBody (stAt 29)).drop 1) (EL L a cd)) Q (fun _ _ => False) { s with heap := h', toks := tk }) :
    wpAny (model pw w) A (execs (fnBody (stAt 29)) (EL L a cd)) Q (fun _ _ => False) s := by
  walk_at "MINEL"
  refine compX (h₀ := h₀) (fun v y nw => ∃ (c : Int) (t u : Tok), v = .int c t ∧ y = .int (c % 1000000) u ∧ nw = []) hr.handled (by decide) (by decide) rfl (by decide) ?_
  walk_at "MINEL"
  rename Fr _ _ _ _ => F1
  rename News _ _ _ _ => N1
  rename IntsAre _ (List.take 8 ns) => hI
  refine ⟨⟨_, _, _, _, _, rfl, F1, N1, .head _, by rw [hI.length, List.length_take]; (first | lia | omega), ?_, ?_⟩⟩
  · intro i v C m' hp tk led hx F2 N2 hsub
    obtain ⟨c, t, rfl, hc⟩ := ints_get hI hx
    walk_at "MINEL"
    exact CompE.plain (by assumption) (by assumption) ⟨c, _, _, rfl, rfl, rfl⟩
  · intro D ys new hp tk n hrel F2 N2 hdis
    obtain ⟨hnew, hys⟩ := relInts hrel hI
    subst hnew
    clear F1 N1
    walk_at "MINEL"
    rename Fr _ _ _ _ => F3
    rename News _ _ _ _ => N3
    refine add_arrays_ints (ns := (ns.take 8).map fun x => x % 1000000) F3 N3 (News.isList N3 (.tail _ (.head _))) (News.isList N3 (.head _)) hys (by l_ints) (fun h4 F4 N4 hi4 => ?_) ?hsz
    case hsz => rw [List.length_map, List.length_take, sizeLine_eq]; simp only [List.length_cons, List.length_nil]; (first | lia | omega)
    clear F2 N2 F3 N3
    walk_at "ONE"
    rename Fr _ _ _ _ => F5
    rename News _ _ _ _ => N5
    refine k _ _ 0 _ _ hi4 F5 ?_
    intro p hp
    rcases List.mem_cons.mp hp with rfl | hp
    · exact N5 _ (.head _)
    · rw [List.mem_singleton.mp hp]
      exact N5 _ (.tail _ (.tail _ (.tail _ (.tail _ (.head _)))))
end
end Mine
end P_WkE
section P_WkF
open PySem PySem.W PySem.Calls PyProof.Rows
set_option linter.unusedVariables false
set_option maxRecDepth 100000
namespace Mine
theorem rules_WkF_1 : True := by
  k_with_none
  k_with "call type:type" => ((with_reducible refine' call_type_of (Tx := "bytes") (typeIs_bytes _ _ _) ?hnb ?_); (case hnb => decide))
  k_with "And" => ((with_reducible show YP _ _ ∧ wpAny _ _ (call (Value.ref _) _ _) _ _ _); refine' And.intro ?gA ?_; (case gA => exact YP.fr (by assumption) (by assumption)))
  k_with "getMethod ref" => (refine' listMethod_K ?gN ?gm PySem.F.slot_list_append PySem.F.type_list_append ?_; (case gN => assumption); (case gm => k_mem))
  k_with "call builtin:list.append" => ((refine' append_K ?gF ?gN ?gU ?_ ?gz; (case gF => assumption); (case gN => assumption); (case gU => k_upd); (case gz => first | assumption | (simp only [Array.size_push, List.size_toArray, List.length_append, List.length_cons, List.length_nil, sizeLine_eq] at *; (first | lia | omega)) | size_fits)); intro _ _ _)
  k_with "call ref" => ((first
  | (with_reducible refine' useI ?gF ?gN (c_b64_value ?gy ?gr) ?_)
  | (with_reducible refine' useB ?gF ?gN (c_ascii_buffer ?gy ?gr) ?_)
  | (with_reducible refine' useB ?gF ?gN (c_buffer ?gy ?gr) ?_)
  | (with_reducible refine' useT ?gF ?gN (c_truth ?gy ?gr) ?_)); (case gF => assumption); (case gN => assumption); (case gy => exact YP.fr (by assumption) (by assumption)); (case gr => exact Room.le (by assumption) (by decide)); intros)
  k_with "eval Name" => (first | ((first | (with_reducible refine' lX ?gF ?gv ?_ ?gk ?gl ?gd) | (with_reducible refine' lC ?gF ?gv ?_ ?gk ?gl ?gd)); (case gF => assumption); (case gl => with_unfolding_all exact rfl); (case gv => first | (with_reducible assumption) | (with_unfolding_all exact rfl)); (case gk => with_unfolding_all exact rfl); (case gd => with_unfolding_all exact rfl)) | ((with_reducible refine' lX ?gF ?gv ?_ ?gk ?gl ?gd); (case gF => assumption); (case gl => with_unfolding_all exact rfl); (case gv => first | (with_reducible assumption) | (with_unfolding_all exact rfl)); (case gk => with_unfolding_all exact rfl); (case gd => with_unfolding_all exact rfl)) | ((first | (with_reducible refine' gX ?gF ?gy (g_law_piece _) ?_ ?gk ?gx ?gg ?gd) | (with_reducible refine' gX ?gF ?gy (g_law_rows _) ?_ ?gk ?gx ?gg ?gd) | (with_reducible refine' gX ?gF ?gy (g_law_in_fours _) ?_ ?gk ?gx ?gg ?gd) | (with_reducible refine' gX ?gF ?gy (g_law_prepares _) ?_ ?gk ?gx ?gg ?gd) | (with_reducible refine' gX ?gF ?gy (g_law_sends _) ?_ ?gk ?gx ?gg ?gd) | (with_reducible refine' gX ?gF ?gy (g_Authenticator _) ?_ ?gk ?gx ?gg ?gd)); (case gF => assumption); (case gy => assumption); (case gk => with_unfolding_all exact rfl); (case gx => with_unfolding_all exact rfl); (case gg => with_unfolding_all exact rfl); (case gd => with_unfolding_all exact rfl)) | ((first | (with_reducible refine' bX ?gF ?gy (n_range _) (b_range _) ?_ ?gk ?gx ?gg ?gb ?gd) | (with_reducible refine' bX ?gF ?gy (n_len _) (b_len _) ?_ ?gk ?gx ?gg ?gb ?gd)); (case gF => assumption); (case gy => assumption); (case gk => with_unfolding_all exact rfl); (case gx => with_unfolding_all exact rfl); (case gg => with_unfolding_all exact rfl); (case gb => with_unfolding_all exact rfl); (case gd => with_unfolding_all exact rfl)))
  k_with "storeName" => ((first | (with_reducible refine' sX ?gF ?gN ?_ ?gk ?gx) | (with_reducible refine' sC ?gF ?gN ?_ ?gk ?gx)); (case gF => assumption); (case gN => assumption); (case gk => with_unfolding_all exact rfl); (case gx => with_unfolding_all exact rfl); intro _ _ _)
  k_with "MINEL" => repeat' ((fail_if_success (with_reducible show wpAny _ _ (eval (Expr.ListComp _ _ _ _) _) _ _ _)); (fail_if_success (with_reducible show InvEndN _ _ _ _ _ _ _)); (fail_if_success (with_reducible show WNext _ _ _ _ _ _ _ _ _ _ _)); (fail_if_success (with_reducible show wpAny _ _ (exec (Stmt.While _ _ _ _) _) _ _ _)); (fail_if_success (with_reducible show wpAny _ _ (exec (Stmt.For _ _ _ _ _) _) _ _ _)); walk1)
  k_with "ONE" => walk1
  k_with "callWith ref" => (first | (refine callWith_y ⟨_, _, (by with_unfolding_all exact rfl), (by with_unfolding_all exact rfl)⟩ ?_) | (refine callWith_m (f := 116) (YP.fr (by assumption) (by assumption)) (fun P => (k_keep P).1) ?_) | (refine callWith_c (YP.fr (by assumption) (by assumption)) ?_))
  trivial
section
variable {w : World} {A : Around} {E : Value → Shared → Prop} {s : Shared}
noncomputable def TupAt (p : Str × Str) (o : Obj) : Prop := o.cls = .type "tuple" ∧ ∃ k ta tb, o.data = .seq #[.str p.1 ta, .str p.2 tb] k
noncomputable def RelP (v y : Value) (nw : List (Addr × Obj)) : Prop := ∃ (c : Int) (t : Tok) (T : Addr) (o : Obj), v = .int c t ∧ 0 ≤ c ∧ y = .ref T ∧ nw = [(T, o)] ∧ TupAt (pieceOf c) o
theorem usePc {h₀ : Heap} {L : Addr} {m : Str → Option Value} {news : List (Addr × Obj)} {Q : Value → Shared → Prop} {c : Int} {t : Tok} (F : Fr h₀ L s.heap m) (N : News h₀ L s.heap news) (y : YP w s.heap) (hr : Room A 1) (h0 : 0 ≤ c)
    (k : ∀ T o h' tk', Fr h₀ L h' m → News h₀ L h' ((T, o) :: news) → (∀ q ∈ news, T ≠ q.1) → TupAt (pieceOf c) o → Q (.ref T) { s with heap := h', toks := tk' }) : wpAny (model pw w) A (call (.ref 225) [.int c t]) Q E s := by
  refine useC F N (c_law_piece y hr h0) fun v h' tk' hp F' N' => ?_
  obtain ⟨T, ta, tb, rfl, ⟨o, ho, hc, n, hd⟩, hf⟩ := hp
  refine k T o h' tk' F' (fun p hp => ?_) (fun q hq e => ?_) ⟨hc, n, ta, tb, hd⟩
  · rcases List.mem_cons.mp hp with rfl | hp
    · refine ⟨ho, fun e => ?_, ?_⟩
      · obtain ⟨oL, _, _, hL, _⟩ := F.ns
        rw [← e] at hL
        exact absurd (hf.symm.trans hL) (by simp)
      · cases e : h₀.get? T with
        | none => rfl
        | some o' => exact absurd (hf.symm.trans (F.keep _ _ e)) (by simp)
    · exact N' p hp
  · have := (N q hq).1
    rw [← e, hf] at this
    cases this
theorem rules_WkF_2 : True := by
  k_with "call ref" => ((with_reducible refine' usePc ?gF ?gN ?gy ?gr ?g0 ?_); (case gF => assumption); (case gN => assumption); (case gy => exact YP.fr (by assumption) (by assumption)); (case gr => exact Room.le (by assumption) (by decide)); (case g0 => assumption); intro _ _ _ _ _ _ _ _)
  trivial
set_option maxHeartbeats 3000000 in
theorem law2 {h₀ : Heap} {L a D : Addr} {cd : Value} {m : Str → Option Value} {us : List Value} {cs : List Int} {n : Nat} {Q : Flow → Shared → Prop} {c0 : Obj} (y : YP w h₀) (hr : Room A 6) (F : Fr h₀ L s.heap m) (N : News h₀ L s.heap [(D, listOf us.toArray n), (L + 1, c0)]) (hv : m "cells" = some (.ref D)) (hi : IntsAre us cs) (hn : cs.length ≤ 25) (hpos : ∀ c ∈ cs, 0 ≤ c)
    (k : ∀ Dp ys n2 new h' tk, RelAll RelP us ys new → (∀ p ∈ new, p.1 ≠ Dp) → Fr h₀ L h' (fun y => if y = Str.ofString "pieces" then some (.ref Dp) else m y) → News h₀ L h' ((Dp, listOf ys.toArray n2) :: (new ++ [(L + 1, c0)])) → wpAny (model pw w) A (execs ((fnBody (stAt 29)).drop 2) (EL L a cd)) Q (fun _ _ => False) { s with heap := h', toks := tk }) :
    wpAny (model pw w) A (execs ((fnBody (stAt 29)).drop 1) (EL L a cd)) Q (fun _ _ => False) s := by
  walk_at "ONE"
  refine compA (h₀ := h₀) RelP hr.handled (by with_unfolding_all rfl) (by rfl) (by rfl) (by decide) (by decide) rfl (by decide) ?_
  walk_at "MINEL"
  refine ⟨⟨_, _, _, _, _, rfl, F, N, .head _, by rw [hi.length]; (first | lia | omega), ?_, ?_⟩⟩
  · intro i v C m' hp tk led hx F2 N2 hsub
    obtain ⟨c, t, rfl, hc⟩ := ints_get hi hx
    have h0c : 0 ≤ c := hpos c (List.mem_of_getElem? hc)
    walk_at "MINEL"
    rename TupAt _ _ => hT
    rename Fr _ _ _ _ => F3
    rename News _ _ _ _ => N3
    refine ⟨_, _, _, [_], rfl, F3, N3, ?_, c, _, _, _, rfl, h0c, rfl, rfl, hT⟩
    intro p hp q hq
    rw [List.mem_singleton.mp hp]
    rename ∀ q : Addr × Obj, q ∈ led → _ ≠ q.1 => hne
    exact hne q hq
  · intro Dp ys new hp tk n2 hrel F2 N2 hdis
    clear F N
    dsimp only
    refine k Dp ys n2 new _ _ hrel (fun p hp => hdis p (List.mem_append_left _ hp)) F2 ?_
    intro p hp
    refine N2 p ?_
    simp only [List.mem_cons, List.mem_append, List.not_mem_nil, or_false] at hp ⊢
    rcases hp with hp | hp | hp
    · exact .inl hp
    · exact .inr (.inl hp)
    · exact .inr (.inr (.inr hp))
end
end Mine
end P_WkF
section P_WkG
open PySem PySem.W PySem.Calls PyProof.Rows
set_option linter.unusedVariables false
set_option maxRecDepth 100000
namespace Mine
theorem rules_WkG_1 : True := by
  k_with_none
  k_with "call type:type" => ((with_reducible refine' call_type_of (Tx := "bytes") (typeIs_bytes _ _ _) ?hnb ?_); (case hnb => decide))
  k_with "And" => ((with_reducible show YP _ _ ∧ wpAny _ _ (call (Value.ref _) _ _) _ _ _); refine' And.intro ?gA ?_; (case gA => exact YP.fr (by assumption) (by assumption)))
  k_with "getMethod ref" => (refine' listMethod_K ?gN ?gm PySem.F.slot_list_append PySem.F.type_list_append ?_; (case gN => assumption); (case gm => k_mem))
  k_with "call builtin:list.append" => ((refine' append_K ?gF ?gN ?gU ?_ ?gz; (case gF => assumption); (case gN => assumption); (case gU => k_upd); (case gz => first | assumption | (simp only [Array.size_push, List.size_toArray, List.length_append, List.length_cons, List.length_nil, sizeLine_eq] at *; (first | lia | omega)) | size_fits)); intro _ _ _)
  k_with "call ref" => ((first
  | (with_reducible refine' useI ?gF ?gN (c_b64_value ?gy ?gr) ?_)
  | (with_reducible refine' useB ?gF ?gN (c_ascii_buffer ?gy ?gr) ?_)
  | (with_reducible refine' useB ?gF ?gN (c_buffer ?gy ?gr) ?_)
  | (with_reducible refine' useT ?gF ?gN (c_truth ?gy ?gr) ?_)); (case gF => assumption); (case gN => assumption); (case gy => exact YP.fr (by assumption) (by assumption)); (case gr => exact Room.le (by assumption) (by decide)); intros)
  k_with "eval Name" => (first | ((first | (with_reducible refine' lX ?gF ?gv ?_ ?gk ?gl ?gd) | (with_reducible refine' lC ?gF ?gv ?_ ?gk ?gl ?gd)); (case gF => assumption); (case gl => with_unfolding_all exact rfl); (case gv => first | (with_reducible assumption) | (with_unfolding_all exact rfl)); (case gk => with_unfolding_all exact rfl); (case gd => with_unfolding_all exact rfl)) | ((with_reducible refine' lX ?gF ?gv ?_ ?gk ?gl ?gd); (case gF => assumption); (case gl => with_unfolding_all exact rfl); (case gv => first | (with_reducible assumption) | (with_unfolding_all exact rfl)); (case gk => with_unfolding_all exact rfl); (case gd => with_unfolding_all exact rfl)) | ((first | (with_reducible refine' gX ?gF ?gy (g_law_piece _) ?_ ?gk ?gx ?gg ?gd) | (with_reducible refine' gX ?gF ?gy (g_law_rows _) ?_ ?gk ?gx ?gg ?gd) | (with_reducible refine' gX ?gF ?gy (g_law_in_fours _) ?_ ?gk ?gx ?gg ?gd) | (with_reducible refine' gX ?gF ?gy (g_law_prepares _) ?_ ?gk ?gx ?gg ?gd) | (with_reducible refine' gX ?gF ?gy (g_law_sends _) ?_ ?gk ?gx ?gg ?gd) | (with_reducible refine' gX ?gF ?gy (g_Authenticator _) ?_ ?gk ?gx ?gg ?gd)); (case gF => assumption); (case gy => assumption); (case gk => with_unfolding_all exact rfl); (case gx => with_unfolding_all exact rfl); (case gg => with_unfolding_all exact rfl); (case gd => with_unfolding_all exact rfl)) | ((first | (with_reducible refine' bX ?gF ?gy (n_range _) (b_range _) ?_ ?gk ?gx ?gg ?gb ?gd) | (with_reducible refine' bX ?gF ?gy (n_len _) (b_len _) ?_ ?gk ?gx ?gg ?gb ?gd)); (case gF => assumption); (case gy => assumption); (case gk => with_unfolding_all exact rfl); (case gx => with_unfolding_all exact rfl); (case gg => with_unfolding_all exact rfl); (case gb => with_unfolding_all exact rfl); (case gd => with_unfolding_all exact rfl)))
  k_with "storeName" => ((first | (with_reducible refine' sX ?gF ?gN ?_ ?gk ?gx) | (with_reducible refine' sC ?gF ?gN ?_ ?gk ?gx)); (case gF => assumption); (case gN => assumption); (case gk => with_unfolding_all exact rfl); (case gx => with_unfolding_all exact rfl); intro _ _ _)
  k_with "MINEL" => repeat' ((fail_if_success (with_reducible show wpAny _ _ (eval (Expr.ListComp _ _ _ _) _) _ _ _)); (fail_if_success (with_reducible show InvEndN _ _ _ _ _ _ _)); (fail_if_success (with_reducible show WNext _ _ _ _ _ _ _ _ _ _ _)); (fail_if_success (with_reducible show wpAny _ _ (exec (Stmt.While _ _ _ _) _) _ _ _)); (fail_if_success (with_reducible show wpAny _ _ (exec (Stmt.For _ _ _ _ _) _) _ _ _)); walk1)
  k_with "ONE" => walk1
  k_with "callWith ref" => (first | (refine callWith_y ⟨_, _, (by with_unfolding_all exact rfl), (by with_unfolding_all exact rfl)⟩ ?_) | (refine callWith_m (f := 116) (YP.fr (by assumption) (by assumption)) (fun P => (k_keep P).1) ?_) | (refine callWith_c (YP.fr (by assumption) (by assumption)) ?_))
  trivial
noncomputable def PairsP (new : List (Addr × Obj)) (xs : List Value) (cs : List Int) : Prop := xs.length = cs.length ∧ ∀ (i : Nat) (v : Value) (c : Int), xs[i]? = some v → cs[i]? = some c → ∃ (T : Addr) (o : Obj), v = .ref T ∧ (T, o) ∈ new ∧ TupAt (pieceOf c) o
theorem pairsP_of {us ys : List Value} {new : List (Addr × Obj)} (h : RelAll RelP us ys new) : ∀ {cs : List Int}, IntsAre us cs → PairsP new ys cs := by
  induction h with
  | nil => intro cs hc; cases hc; exact ⟨rfl, fun i v c e => by simp at e⟩
  | @snoc xs ys new v y nw h1 h2 ih =>
    intro cs hc
    obtain ⟨c, t, T, o, rfl, h0, rfl, rfl, hT⟩ := h2
    obtain ⟨a, b, rfl, ha, hb⟩ := intsAre_app hc
    cases hb with
    | cons c' t' hb =>
      cases hb
      obtain ⟨l1, l2⟩ := ih ha
      refine ⟨by rw [List.length_append, List.length_append, l1]; rfl, fun i v c1 e1 e2 => ?_⟩
      rcases Nat.lt_trichotomy i ys.length with hi | hi | hi
      · rw [List.getElem?_append_left hi] at e1
        rw [List.getElem?_append_left (by (first | lia | omega))] at e2
        obtain ⟨T', o', a1, a2, a3⟩ := l2 i v c1 e1 e2
        exact ⟨T', o', a1, List.mem_append_right _ a2, a3⟩
      · subst hi
        rw [List.getElem?_append_right (Nat.le_refl _)] at e1
        rw [List.getElem?_append_right (by (first | lia | omega))] at e2
        simp [l1] at e1 e2
        subst e1; subst e2
        exact ⟨T, o, rfl, List.mem_append_left _ (.head _), hT⟩
      · rw [List.getElem?_eq_none (by rw [List.length_append]; simp; (first | lia | omega))] at e1
        cases e1
noncomputable def Rel3 (new : List (Addr × Obj)) (f : Str × Str → Str) (v y : Value) (nw : List (Addr × Obj)) : Prop := nw = [] ∧ ∀ (T : Addr) (o : Obj) (c : Int), v = .ref T → (T, o) ∈ new → TupAt (pieceOf c) o → ∃ t, y = .str (f (pieceOf c)) t
theorem rel3_strs {new nw : List (Addr × Obj)} {f : Str × Str → Str} {xs ys : List Value} (h : RelAll (Rel3 new f) xs ys nw) : ∀ {cs : List Int}, PairsP new xs cs → nw = [] ∧ StrsAre ys (cs.map fun c => f (pieceOf c)) := by
  induction h with
  | nil =>
    intro cs hc
    have : cs = [] := List.eq_nil_of_length_eq_zero hc.1.symm
    subst this
    exact ⟨rfl, .nil⟩
  | @snoc xs ys nw0 v y nw h1 h2 ih =>
    intro cs hc
    have hlen := hc.1
    rw [List.length_append] at hlen
    simp only [List.length_cons, List.length_nil] at hlen
    obtain ⟨cs0, c, rfl⟩ : ∃ cs0 c, cs = cs0 ++ [c] := by
      rcases List.eq_nil_or_concat cs with e | ⟨a, b, e⟩
      · rw [e] at hlen; simp at hlen
      · exact ⟨a, b, by simpa using e⟩
    rw [List.length_append] at hlen
    simp only [List.length_cons, List.length_nil] at hlen
    have h0 : PairsP new xs cs0 := ⟨by (first | lia | omega), fun i v c e1 e2 => hc.2 i v c (by rw [List.getElem?_append_left (by have := (List.getElem?_eq_some_iff.mp e1).1; (first | lia | omega))]; exact e1) (by rw [List.getElem?_append_left (by have := (List.getElem?_eq_some_iff.mp e2).1; (first | lia | omega))]; exact e2)⟩
    obtain ⟨e1, e2⟩ := ih h0
    obtain ⟨T, o, a1, a2, a3⟩ := hc.2 xs.length v c (by simp) (by rw [List.getElem?_append_right (by (first | lia | omega)), show xs.length - cs0.length = 0 by (first | lia | omega)]; rfl)
    obtain ⟨t, ht⟩ := h2.2 T o c a1 a2 a3
    refine ⟨by rw [e1, h2.1]; rfl, ?_⟩
    rw [ht, List.map_append]
    exact e2.append' (.cons _ _ .nil)
theorem tup_inj {p q : Str × Str} {o : Obj} (h1 : TupAt p o) (h2 : TupAt q o) : p = q := by
  obtain ⟨_, k, ta, tb, e⟩ := h1
  obtain ⟨_, k', ta', tb', e'⟩ := h2
  rw [e] at e'
  injection e' with e1 _
  have e2 := Array.mk.inj e1
  injection e2 with e3 e4
  injection e3 with e5 e6
  injection e4 with e7 e8
  injection e7 with e9 e10
  exact Prod.ext e5 e9
section
variable {w : World} {A : Around} {E : Value → Shared → Prop} {s : Shared}
set_option maxHeartbeats 3000000 in
theorem law3 {h₀ : Heap} {L a Dp : Addr} {cd : Value} {m : Str → Option Value} {ys : List Value} {cs : List Int} {n : Nat} {new : List (Addr × Obj)} {Q : Flow → Shared → Prop} {c0 : Obj} (y : YP w h₀) (hr : Room A 6) (F : Fr h₀ L s.heap m) (N : News h₀ L s.heap ((Dp, listOf ys.toArray n) :: (new ++ [(L + 1, c0)]))) (hv : m "pieces" = some (.ref Dp)) (hp : PairsP new ys cs) (hn : cs.length ≤ 25)
    (hj : JoinOk "" (cs.map fun c => (pieceOf c).1) = true)
    (k : ∀ t h' tk, Fr h₀ L h' (fun y => if y = Str.ofString "text" then some (.str (Txt.join "" (cs.map fun c => (pieceOf c).1)) t) else m y) → News h₀ L h' ((Dp, listOf ys.toArray n) :: (new ++ [(L + 1, c0)])) → wpAny (model pw w) A (execs ((fnBody (stAt 29)).drop 3) (EL L a cd)) Q (fun _ _ => False) { s with heap := h', toks := tk }) :
    wpAny (model pw w) A (execs ((fnBody (stAt 29)).drop 2) (EL L a cd)) Q (fun _ _ => False) s := by
  walk_at "MINEL"
  refine compX (h₀ := h₀) (Rel3 new fun p => p.1) hr.handled (by decide) (by decide) rfl (by decide) ?_
  walk_at "MINEL"
  refine ⟨⟨_, _, _, _, _, rfl, F, N, .head _, by rw [hp.1]; (first | lia | omega), ?_, ?_⟩⟩
  · intro i v C m' hh tk led hx F2 N2 hsub
    have hci : i < cs.length := by have := (List.getElem?_eq_some_iff.mp hx).1; have := hp.1; (first | lia | omega)
    obtain ⟨T, o, rfl, hmem, hTup⟩ := hp.2 i v cs[i] hx (List.getElem?_eq_getElem hci)
    obtain ⟨hc1, k1, ta, tb, hd1⟩ := id hTup
    have hIs : IsTup hh T #[.str (pieceOf cs[i]).1 ta, .str (pieceOf cs[i]).2 tb] := ⟨o, (N2 _ (hsub _ (.tail _ (List.mem_append_left _ hmem)))).1, hc1, k1, hd1⟩
    refine unpackN_ F2 N2 hIs hr.handled (by with_unfolding_all rfl) (by with_unfolding_all rfl) (fun h3 F3 N3 => ?_)
    clear F2 N2
    walk_at "MINEL"
    refine CompE.plain (by assumption) (by assumption) ⟨rfl, fun T' o' c' e1 e2 e3 => ?_⟩
    cases e1
    have ho : o' = o := by
      have g1 := (N _ (.tail _ (List.mem_append_left _ e2))).1
      have g2 := (N _ (.tail _ (List.mem_append_left _ hmem))).1
      rw [g1] at g2
      exact Option.some.inj g2
    rw [ho] at e3
    rw [tup_inj e3 hTup]
    exact ⟨_, rfl⟩
  · intro D ys2 nw hh tk n2 hrel F2 N2 hdis
    obtain ⟨e1, hstr⟩ := rel3_strs hrel hp
    subst e1
    clear F N
    walk_at "ONE"
    refine joinU (News.isList N2 (.head _)) hstr hj (fun t' k' => ?_)
    walk_at "ONE"
    rename Fr _ _ _ _ => F5
    rename News _ _ _ _ => N5
    refine k _ _ _ F5 ?_
    intro p hp
    exact N5 p (.tail _ hp)
end
end Mine
end P_WkG
section P_WkI
open PySem PySem.W PySem.Calls PyProof.Rows
set_option linter.unusedVariables false
set_option maxRecDepth 100000
namespace Mine
theorem rules_WkI_1 : True := by
  k_with_none
  k_with "call type:type" => ((with_reducible refine' call_type_of (Tx := "bytes") (typeIs_bytes _ _ _) ?hnb ?_); (case hnb => decide))
  k_with "And" => ((with_reducible show YP _ _ ∧ wpAny _ _ (call (Value.ref _) _ _) _ _ _); refine' And.intro ?gA ?_; (case gA => exact YP.fr (by assumption) (by assumption)))
  k_with "getMethod ref" => (refine' listMethod_K ?gN ?gm PySem.F.slot_list_append PySem.F.type_list_append ?_; (case gN => assumption); (case gm => k_mem))
  k_with "call builtin:list.append" => ((refine' append_K ?gF ?gN ?gU ?_ ?gz; (case gF => assumption); (case gN => assumption); (case gU => k_upd); (case gz => first | assumption | (simp only [Array.size_push, List.size_toArray, List.length_append, List.length_cons, List.length_nil, sizeLine_eq] at *; (first | lia | omega)) | size_fits)); intro _ _ _)
  k_with "call ref" => ((first
  | (with_reducible refine' useI ?gF ?gN (c_b64_value ?gy ?gr) ?_)
  | (with_reducible refine' useB ?gF ?gN (c_ascii_buffer ?gy ?gr) ?_)
  | (with_reducible refine' useB ?gF ?gN (c_buffer ?gy ?gr) ?_)
  | (with_reducible refine' useT ?gF ?gN (c_truth ?gy ?gr) ?_)); (case gF => assumption); (case gN => assumption); (case gy => exact YP.fr (by assumption) (by assumption)); (case gr => exact Room.le (by assumption) (by decide)); intros)
  k_with "eval Name" => (first | ((first | (with_reducible refine' lX ?gF ?gv ?_ ?gk ?gl ?gd) | (with_reducible refine' lC ?gF ?gv ?_ ?gk ?gl ?gd)); (case gF => assumption); (case gl => with_unfolding_all exact rfl); (case gv => first | (with_reducible assumption) | (with_unfolding_all exact rfl)); (case gk => with_unfolding_all exact rfl); (case gd => with_unfolding_all exact rfl)) | ((with_reducible refine' lX ?gF ?gv ?_ ?gk ?gl ?gd); (case gF => assumption); (case gl => with_unfolding_all exact rfl); (case gv => first | (with_reducible assumption) | (with_unfolding_all exact rfl)); (case gk => with_unfolding_all exact rfl); (case gd => with_unfolding_all exact rfl)) | ((first | (with_reducible refine' gX ?gF ?gy (g_law_piece _) ?_ ?gk ?gx ?gg ?gd) | (with_reducible refine' gX ?gF ?gy (g_law_rows _) ?_ ?gk ?gx ?gg ?gd) | (with_reducible refine' gX ?gF ?gy (g_law_in_fours _) ?_ ?gk ?gx ?gg ?gd) | (with_reducible refine' gX ?gF ?gy (g_law_prepares _) ?_ ?gk ?gx ?gg ?gd) | (with_reducible refine' gX ?gF ?gy (g_law_sends _) ?_ ?gk ?gx ?gg ?gd) | (with_reducible refine' gX ?gF ?gy (g_Authenticator _) ?_ ?gk ?gx ?gg ?gd)); (case gF => assumption); (case gy => assumption); (case gk => with_unfolding_all exact rfl); (case gx => with_unfolding_all exact rfl); (case gg => with_unfolding_all exact rfl); (case gd => with_unfolding_all exact rfl)) | ((first | (with_reducible refine' bX ?gF ?gy (n_range _) (b_range _) ?_ ?gk ?gx ?gg ?gb ?gd) | (with_reducible refine' bX ?gF ?gy (n_len _) (b_len _) ?_ ?gk ?gx ?gg ?gb ?gd)); (case gF => assumption); (case gy => assumption); (case gk => with_unfolding_all exact rfl); (case gx => with_unfolding_all exact rfl); (case gg => with_unfolding_all exact rfl); (case gb => with_unfolding_all exact rfl); (case gd => with_unfolding_all exact rfl)))
  k_with "storeName" => ((first | (with_reducible refine' sX ?gF ?gN ?_ ?gk ?gx) | (with_reducible refine' sC ?gF ?gN ?_ ?gk ?gx)); (case gF => assumption); (case gN => assumption); (case gk => with_unfolding_all exact rfl); (case gx => with_unfolding_all exact rfl); intro _ _ _)
  k_with "MINEL" => repeat' ((fail_if_success (with_reducible show wpAny _ _ (eval (Expr.ListComp _ _ _ _) _) _ _ _)); (fail_if_success (with_reducible show InvEndN _ _ _ _ _ _ _)); (fail_if_success (with_reducible show WNext _ _ _ _ _ _ _ _ _ _ _)); (fail_if_success (with_reducible show wpAny _ _ (exec (Stmt.While _ _ _ _) _) _ _ _)); (fail_if_success (with_reducible show wpAny _ _ (exec (Stmt.For _ _ _ _ _) _) _ _ _)); walk1)
  k_with "ONE" => walk1
  k_with "callWith ref" => (first | (refine callWith_y ⟨_, _, (by with_unfolding_all exact rfl), (by with_unfolding_all exact rfl)⟩ ?_) | (refine callWith_m (f := 116) (YP.fr (by assumption) (by assumption)) (fun P => (k_keep P).1) ?_) | (refine callWith_c (YP.fr (by assumption) (by assumption)) ?_))
  trivial
section
variable {w : World} {A : Around} {E : Value → Shared → Prop} {s : Shared}
set_option maxHeartbeats 3000000 in
theorem law4 {h₀ : Heap} {L a Dp : Addr} {cd : Value} {m : Str → Option Value} {ys : List Value} {cs : List Int} {n : Nat} {new : List (Addr × Obj)} {Q : Flow → Shared → Prop} {c0 : Obj} (y : YP w h₀) (hr : Room A 6) (F : Fr h₀ L s.heap m) (N : News h₀ L s.heap ((Dp, listOf ys.toArray n) :: (new ++ [(L + 1, c0)]))) (hv : m "pieces" = some (.ref Dp)) (hp : PairsP new ys cs) (hn : cs.length ≤ 25)
    (hj : JoinOk "" (cs.map fun c => (pieceOf c).2) = true)
    (k : ∀ t h' tk, Fr h₀ L h' (fun y => if y = Str.ofString "told" then some (.str (Txt.join "" (cs.map fun c => (pieceOf c).2)) t) else m y) → News h₀ L h' ((Dp, listOf ys.toArray n) :: (new ++ [(L + 1, c0)])) → wpAny (model pw w) A (execs ((fnBody (stAt 29)).drop 4) (EL L a cd)) Q (fun _ _ => False) { s with heap := h', toks := tk }) :
    wpAny (model pw w) A (execs ((fnBody (stAt 29)).drop 3) (EL L a cd)) Q (fun _ _ => False) s := by
  walk_at "MINEL"
  refine compX (h₀ := h₀) (Rel3 new fun p => p.2) hr.handled (by decide) (by decide) rfl (by decide) ?_
  walk_at "MINEL"
  refine ⟨⟨_, _, _, _, _, rfl, F, N, .head _, by rw [hp.1]; (first | lia | omega), ?_, ?_⟩⟩
  · intro i v C m' hh tk led hx F2 N2 hsub
    have hci : i < cs.length := by have := (List.getElem?_eq_some_iff.mp hx).1; have := hp.1; (first | lia | omega)
    obtain ⟨T, o, rfl, hmem, hTup⟩ := hp.2 i v cs[i] hx (List.getElem?_eq_getElem hci)
    obtain ⟨hc1, k1, ta, tb, hd1⟩ := id hTup
    have hIs : IsTup hh T #[.str (pieceOf cs[i]).1 ta, .str (pieceOf cs[i]).2 tb] := ⟨o, (N2 _ (hsub _ (.tail _ (List.mem_append_left _ hmem)))).1, hc1, k1, hd1⟩
    refine unpackN_ F2 N2 hIs hr.handled (by with_unfolding_all rfl) (by with_unfolding_all rfl) (fun h3 F3 N3 => ?_)
    clear F2 N2
    walk_at "MINEL"
    refine CompE.plain (by assumption) (by assumption) ⟨rfl, fun T' o' c' e1 e2 e3 => ?_⟩
    cases e1
    have ho : o' = o := by
      have g1 := (N _ (.tail _ (List.mem_append_left _ e2))).1
      have g2 := (N _ (.tail _ (List.mem_append_left _ hmem))).1
      rw [g1] at g2
      exact Option.some.inj g2
    rw [ho] at e3
    rw [tup_inj e3 hTup]
    exact ⟨_, rfl⟩
  · intro D ys2 nw hh tk n2 hrel F2 N2 hdis
    obtain ⟨e1, hstr⟩ := rel3_strs hrel hp
    subst e1
    clear F N
    walk_at "ONE"
    refine joinU (News.isList N2 (.head _)) hstr hj (fun t' k' => ?_)
    walk_at "ONE"
    rename Fr _ _ _ _ => F5
    rename News _ _ _ _ => N5
    refine k _ _ _ F5 ?_
    intro p hp
    exact N5 p (.tail _ hp)
end
end Mine
end P_WkI
section P_WkJ
open PySem PySem.W PySem.Calls PyProof.Rows
set_option linter.unusedVariables false
set_option maxRecDepth 100000
namespace Mine
/-- a text's octets, and what a hand gives for it -/
noncomputable def O (x : Str) : List Int := KBw.bInts (encB Builtin._codecs.utf8Codec x)
noncomputable def gv (x : Str) : Array UInt8 := byteArr (foursI (O x))
structure Okx (x : Str) : Prop where
  good : ∀ y ∈ x.cps.toList, y < 0x110000 ∧ PySem.Str.isSurrogate y = false
  lo : 1 ≤ x.cps.size
  hi : x.cps.size ≤ 10000
theorem utf8Of_le (c : Nat) : (PySem.Str.utf8Of c).length ≤ 4 := by
  unfold PySem.Str.utf8Of
  split
  · simp
  · split
    · simp
    · split <;> simp
theorem enc_toList (x : Str) : (encB Builtin._codecs.utf8Codec x).toList = utf8L x.cps.toList := encB_toList _ x
theorem enc_arr (x : Str) : encB Builtin._codecs.utf8Codec x = (utf8L x.cps.toList).toArray := by
  apply Array.toList_inj.mp
  rw [enc_toList, List.toList_toArray]
theorem utf8L_le (l : List Nat) : (utf8L l).length ≤ 4 * l.length := by
  induction l with
  | nil => exact Nat.le_refl _
  | cons c l ih => rw [utf8L_cons, List.length_append, List.length_cons]; have := utf8Of_le c; (first | lia | omega)
theorem enc_size (x : Str) : (encB Builtin._codecs.utf8Codec x).size ≤ 4 * x.cps.size := by
  rw [enc_arr, List.size_toArray]
  exact utf8L_le _
theorem enc_pos (x : Str) : x.cps.size ≤ (encB Builtin._codecs.utf8Codec x).size := by
  rw [enc_arr, List.size_toArray]
  exact utf8L_length _
theorem O_oct (x : Str) : Oct (O x) := bInts_oct _
theorem O_arr (x : Str) : byteArr (O x) = encB Builtin._codecs.utf8Codec x := ints_byteArr _
theorem O_len (x : Str) : (O x).length = (encB Builtin._codecs.utf8Codec x).size := KBw.ints_length _
theorem Okx.bad {x : Str} (o : Okx x) : ∀ y ∈ x.cps.toList, Builtin._codecs.utf8Codec.bad y = false := fun y hy => (o.good y hy).2
theorem Okx.sz {x : Str} (o : Okx x) : (encB Builtin._codecs.utf8Codec x).size ≤ 40000 := by have := enc_size x; have := o.hi; (first | lia | omega)
theorem Okx.fit {x : Str} (o : Okx x) : (encB Builtin._codecs.utf8Codec x).size ≤ sizeLine := by have := o.sz; rw [sizeLine_eq]; (first | lia | omega)
theorem Okx.sz1 {x : Str} (o : Okx x) : 1 ≤ (O x).length := by rw [O_len]; have := enc_pos x; have := o.lo; (first | lia | omega)
theorem Okx.sz2 {x : Str} (o : Okx x) : (O x).length ≤ 40000 := by rw [O_len]; exact o.sz
theorem gv_size {x : Str} (o : Okx x) : (gv x).size ≤ 60000 := by
  unfold gv
  rw [byteArr_size, foursI_len]; have := o.sz2; (first | lia | omega)
section
variable {w : World} {A : Around} {E : Value → Shared → Prop} {s : Shared}
theorem c_fours {x : Str} {t : Tok} (y : YP w s.heap) (hr : Room A 1) (o : Okx x) :
    wpAny (model pw w) A (call (.ref 239) [.bytes (encB Builtin._codecs.utf8Codec x) t]) (Ret s fun v _ => ∃ t', v = .bytes (gv x) t') E s := by
  have h0 : (encB Builtin._codecs.utf8Codec x).size = (O x).length := (O_len x).symm
  have e : encB Builtin._codecs.asciiCodec (foursW (KBw.bInts (encB Builtin._codecs.utf8Codec x)) (((encB Builtin._codecs.utf8Codec x).size + 2) / 3)) = gv x := by
    rw [h0]; exact fours_enc (O_oct x)
  have h := c_law_fours (w := w) (A := A) (E := E) (s := s) (b := encB Builtin._codecs.utf8Codec x) (t := t) y hr (by have := o.sz; (first | lia | omega)) (by rw [h0]; exact fours_ascii (O_oct x)) (by rw [e, sizeLine_eq]; have := gv_size o; (first | lia | omega))
  rw [e] at h
  exact h
theorem hand_sends {x : Str} (o : Okx x) (ho : SubOk x) : Hand w 253 (O x) (dotted (crlfed x)) := by
  intro A s E t y hr
  have h := c_law_sends (w := w) (A := A) (E := E) (s := s) (b := byteArr (O x)) (l := x.cps.toList) (t := t) y hr ((O_arr x).trans (enc_arr x)) o.good (by have := o.lo; intro e; rw [← Array.length_toList, e] at this; simp at this) (by rw [Array.length_toList, sizeLine_eq]; have := o.hi; (first | lia | omega)) (by simpa using ho)
  simpa using h
theorem hand_prep {x : Str} (o : Okx x) (hlow : ∀ k ∈ KStt.codes x, (Txt.lower ⟨#[k.toNat]⟩).length ≤ 16) (hj : JoinOk "" (prepL (KStt.codes x)) = true) : Hand w 246 (O x) (Txt.join "" (prepL (KStt.codes x))) := by
  intro A s E t y hr
  have h := c_law_prepares (w := w) (A := A) (E := E) (s := s) (b := byteArr (O x)) (l := x.cps.toList) (t := t) y hr ((O_arr x).trans (enc_arr x)) o.good (by have := o.lo; intro e; rw [← Array.length_toList, e] at this; simp at this) (by rw [Array.length_toList, sizeLine_eq]; have := o.hi; (first | lia | omega)) (by rw [Array.length_toList]; have := o.hi; (first | lia | omega)) (by simpa using hlow) (by simpa using hj)
  simpa using h
theorem c_proc {X r : Str} {x dx f : Addr} {t : Tok} (y : YP w s.heap) (hr : Room A 4) (I : InstOf s.heap x dx f) (oX : Okx X) (oR : Okx r) (hf : ∃ o fd, (H7 w.params).get? f = some o ∧ o.data = .func fd) (hh : Hand w f (O X) r) :
    wpAny (model pw w) A (call (.ref 116) [.ref x, .bytes (gv X) t]) (Ret s fun v _ => ∃ t', v = .bytes (gv r) t') E s :=
  c_process y hr I rfl (O_oct X) (by have := oX.sz2; (first | lia | omega)) oX.sz1 hf hh oR.bad oR.fit (by have := oR.sz; (first | lia | omega))
end
end Mine
end P_WkJ
section P_WkK
open PySem PySem.W PySem.Calls PyProof.Rows
set_option linter.unusedVariables false
set_option maxRecDepth 100000
namespace Mine
theorem gX_law_rows {w : World} {M : Model} {A : Around} {E : Value → Shared → Prop} {s : Shared} {env : Env} {h₀ : Heap} {L : Addr} {m : Str → Option Value} {pos : Pos} {Q : Value → Shared → Prop} (F : Fr h₀ L s.heap m) (y : YP w h₀) (h : Q (.ref 232) s) (hk : env.scope.kind = .function) (hx : env.kindOf (Str.ofString "_law_rows") = some .globalImplicit) (hg : env.globals = mainGlobals) (hd : (Str.ofString "_law_rows" == ("__debug__" : Str)) = false) : wpAny M A (eval (.Name (Str.ofString "_law_rows") pos) env) Q E s := gX F y (g_law_rows _) h hk hx hg hd
theorem gX_law_in_fours {w : World} {M : Model} {A : Around} {E : Value → Shared → Prop} {s : Shared} {env : Env} {h₀ : Heap} {L : Addr} {m : Str → Option Value} {pos : Pos} {Q : Value → Shared → Prop} (F : Fr h₀ L s.heap m) (y : YP w h₀) (h : Q (.ref 239) s) (hk : env.scope.kind = .function) (hx : env.kindOf (Str.ofString "_law_in_fours") = some .globalImplicit) (hg : env.globals = mainGlobals) (hd : (Str.ofString "_law_in_fours" == ("__debug__" : Str)) = false) : wpAny M A (eval (.Name (Str.ofString "_law_in_fours") pos) env) Q E s := gX F y (g_law_in_fours _) h hk hx hg hd
theorem gX_law_prepares {w : World} {M : Model} {A : Around} {E : Value → Shared → Prop} {s : Shared} {env : Env} {h₀ : Heap} {L : Addr} {m : Str → Option Value} {pos : Pos} {Q : Value → Shared → Prop} (F : Fr h₀ L s.heap m) (y : YP w h₀) (h : Q (.ref 246) s) (hk : env.scope.kind = .function) (hx : env.kindOf (Str.ofString "_law_prepares") = some .globalImplicit) (hg : env.globals = mainGlobals) (hd : (Str.ofString "_law_prepares" == ("__debug__" : Str)) = false) : wpAny M A (eval (.Name (Str.ofString "_law_prepares") pos) env) Q E s := gX F y (g_law_prepares _) h hk hx hg hd
theorem gX_law_sends {w : World} {M : Model} {A : Around} {E : Value → Shared → Prop} {s : Shared} {env : Env} {h₀ : Heap} {L : Addr} {m : Str → Option Value} {pos : Pos} {Q : Value → Shared → Prop} (F : Fr h₀ L s.heap m) (y : YP w h₀) (h : Q (.ref 253) s) (hk : env.scope.kind = .function) (hx : env.kindOf (Str.ofString "_law_sends") = some .globalImplicit) (hg : env.globals = mainGlobals) (hd : (Str.ofString "_law_sends" == ("__debug__" : Str)) = false) : wpAny M A (eval (.Name (Str.ofString "_law_sends") pos) env) Q E s := gX F y (g_law_sends _) h hk hx hg hd
theorem gX_Authenticator {w : World} {M : Model} {A : Around} {E : Value → Shared → Prop} {s : Shared} {env : Env} {h₀ : Heap} {L : Addr} {m : Str → Option Value} {pos : Pos} {Q : Value → Shared → Prop} (F : Fr h₀ L s.heap m) (y : YP w h₀) (h : Q (.ref 133) s) (hk : env.scope.kind = .function) (hx : env.kindOf (Str.ofString "_Authenticator") = some .globalImplicit) (hg : env.globals = mainGlobals) (hd : (Str.ofString "_Authenticator" == ("__debug__" : Str)) = false) : wpAny M A (eval (.Name (Str.ofString "_Authenticator") pos) env) Q E s := gX F y (g_Authenticator _) h hk hx hg hd
theorem bX_range {w : World} {M : Model} {A : Around} {E : Value → Shared → Prop} {s : Shared} {env : Env} {h₀ : Heap} {L : Addr} {m : Str → Option Value} {pos : Pos} {Q : Value → Shared → Prop} (F : Fr h₀ L s.heap m) (y : YP w h₀) (h : Q (.type "range") s) (hk : env.scope.kind = .function) (hx : env.kindOf (Str.ofString "range") = some .globalImplicit) (hg : env.globals = mainGlobals) (hb : env.builtins = builtinsNs) (hd : (Str.ofString "range" == ("__debug__" : Str)) = false) : wpAny M A (eval (.Name (Str.ofString "range") pos) env) Q E s := bX F y (n_range _) (b_range _) h hk hx hg hb hd
theorem bX_len {w : World} {M : Model} {A : Around} {E : Value → Shared → Prop} {s : Shared} {env : Env} {h₀ : Heap} {L : Addr} {m : Str → Option Value} {pos : Pos} {Q : Value → Shared → Prop} (F : Fr h₀ L s.heap m) (y : YP w h₀) (h : Q (.builtin "len") s) (hk : env.scope.kind = .function) (hx : env.kindOf (Str.ofString "len") = some .globalImplicit) (hg : env.globals = mainGlobals) (hb : env.builtins = builtinsNs) (hd : (Str.ofString "len" == ("__debug__" : Str)) = false) : wpAny M A (eval (.Name (Str.ofString "len") pos) env) Q E s := bX F y (n_len _) (b_len _) h hk hx hg hb hd
theorem rules_WkK_1 : True := by
  k_with_none
  k_with "call type:type" => ((with_reducible refine' call_type_of (Tx := "bytes") (typeIs_bytes _ _ _) ?hnb ?_); (case hnb => decide))
  k_with "And" => ((with_reducible show YP _ _ ∧ wpAny _ _ (call (Value.ref _) _ _) _ _ _); refine' And.intro ?gA ?_; (case gA => exact YP.fr (by assumption) (by assumption)))
  k_with "getMethod ref" => (refine' listMethod_K ?gN ?gm PySem.F.slot_list_append PySem.F.type_list_append ?_; (case gN => assumption); (case gm => k_mem))
  k_with "call builtin:list.append" => ((refine' append_K ?gF ?gN ?gU ?_ ?gz; (case gF => assumption); (case gN => assumption); (case gU => k_upd); (case gz => first | assumption | (simp only [Array.size_push, List.size_toArray, List.length_append, List.length_cons, List.length_nil, sizeLine_eq] at *; omega) | size_fits)); intro _ _ _)
  k_with "call ref" => ((first
  | (with_reducible refine' useI ?gF ?gN (c_b64_value ?gy ?gr) ?_)
  | (with_reducible refine' useB ?gF ?gN (c_ascii_buffer ?gy ?gr) ?_)
  | (with_reducible refine' useB ?gF ?gN (c_buffer ?gy ?gr) ?_)
  | (with_reducible refine' useT ?gF ?gN (c_truth ?gy ?gr) ?_)); (case gF => assumption); (case gN => assumption); (case gy => exact YP.fr (by assumption) (by assumption)); (case gr => exact Room.le (by assumption) (by decide)); intros)
  k_with "eval Name" => (first | ((first | (with_reducible refine' lX ?gF ?gv ?_ ?gk ?gl ?gd) | (with_reducible refine' lC ?gF ?gv ?_ ?gk ?gl ?gd)); (case gF => assumption); (case gl => with_unfolding_all exact rfl); (case gv => first | (with_reducible assumption) | (with_unfolding_all exact rfl)); (case gk => with_unfolding_all exact rfl); (case gd => with_unfolding_all exact rfl)) | ((with_reducible refine' lX ?gF ?gv ?_ ?gk ?gl ?gd); (case gF => assumption); (case gl => with_unfolding_all exact rfl); (case gv => first | (with_reducible assumption) | (with_unfolding_all exact rfl)); (case gk => with_unfolding_all exact rfl); (case gd => with_unfolding_all exact rfl)) | ((first | (with_reducible refine' gX ?gF ?gy (g_law_piece _) ?_ ?gk ?gx ?gg ?gd) | (with_reducible refine' gX ?gF ?gy (g_law_rows _) ?_ ?gk ?gx ?gg ?gd) | (with_reducible refine' gX ?gF ?gy (g_law_in_fours _) ?_ ?gk ?gx ?gg ?gd) | (with_reducible refine' gX ?gF ?gy (g_law_prepares _) ?_ ?gk ?gx ?gg ?gd) | (with_reducible refine' gX ?gF ?gy (g_law_sends _) ?_ ?gk ?gx ?gg ?gd) | (with_reducible refine' gX ?gF ?gy (g_Authenticator _) ?_ ?gk ?gx ?gg ?gd)); (case gF => assumption); (case gy => assumption); (case gk => with_unfolding_all exact rfl); (case gx => with_unfolding_all exact rfl); (case gg => with_unfolding_all exact rfl); (case gd => with_unfolding_all exact rfl)) | ((first | (with_reducible refine' bX ?gF ?gy (n_range _) (b_range _) ?_ ?gk ?gx ?gg ?gb ?gd) | (with_reducible refine' bX ?gF ?gy (n_len _) (b_len _) ?_ ?gk ?gx ?gg ?gb ?gd)); (case gF => assumption); (case gy => assumption); (case gk => with_unfolding_all exact rfl); (case gx => with_unfolding_all exact rfl); (case gg => with_unfolding_all exact rfl); (case gb => with_unfolding_all exact rfl); (case gd => with_unfolding_all exact rfl)))
  k_with "storeName" => ((first | (with_reducible refine' sX ?gF ?gN ?_ ?gk ?gx) | (with_reducible refine' sC ?gF ?gN ?_ ?gk ?gx)); (case gF => assumption); (case gN => assumption); (case gk => with_unfolding_all exact rfl); (case gx => with_unfolding_all exact rfl); intro _ _ _)
  k_with "NMV" => first | (with_reducible assumption) | (with_reducible exact if_pos rfl) | ((refine Eq.trans (if_neg (by decide)) ?_); walk_at "NMV") | (with_unfolding_all exact rfl)
  k_with "callWith ref" => (first | (refine callWith_y ⟨_, _, (by with_unfolding_all exact rfl), (by with_unfolding_all exact rfl)⟩ ?_) | (refine callWith_m (f := 116) (YP.fr (by assumption) (by assumption)) (fun P => (k_keep P).1) ?_) | (refine callWith_c (YP.fr (by assumption) (by assumption)) ?_))
  k_with "STMT" => (walk1; repeat' ((fail_if_success (with_reducible show wpAny _ _ (execs _ _) _ _ _)); (fail_if_success (with_reducible show wpAny _ _ (eval (Expr.ListComp _ _ _ _) _) _ _ _)); (fail_if_success (with_reducible show wpAny _ _ (exec (Stmt.While _ _ _ _) _) _ _ _)); (fail_if_success (with_reducible show wpAny _ _ (exec (Stmt.For _ _ _ _ _) _) _ _ _)); walk1))
  k_with "eval Name" => (first | ((first | (with_reducible refine' gX_law_rows ?gF ?gy ?_ ?gk ?gx ?gg ?gd) | (with_reducible refine' gX_law_in_fours ?gF ?gy ?_ ?gk ?gx ?gg ?gd) | (with_reducible refine' gX_law_prepares ?gF ?gy ?_ ?gk ?gx ?gg ?gd) | (with_reducible refine' gX_law_sends ?gF ?gy ?_ ?gk ?gx ?gg ?gd) | (with_reducible refine' gX_Authenticator ?gF ?gy ?_ ?gk ?gx ?gg ?gd)); (case gF => assumption); (case gy => assumption); (case gk => with_unfolding_all exact rfl); (case gx => with_unfolding_all exact rfl); (case gg => with_unfolding_all exact rfl); (case gd => with_unfolding_all exact rfl)) | ((first | (with_reducible refine' bX_range ?gF ?gy ?_ ?gk ?gx ?gg ?gb ?gd) | (with_reducible refine' bX_len ?gF ?gy ?_ ?gk ?gx ?gg ?gb ?gd)); (case gF => assumption); (case gy => assumption); (case gk => with_unfolding_all exact rfl); (case gx => with_unfolding_all exact rfl); (case gg => with_unfolding_all exact rfl); (case gb => with_unfolding_all exact rfl); (case gd => with_unfolding_all exact rfl)) | ((first | (with_reducible refine' lX ?gF ?gv ?_ ?gk ?gl ?gd) | (with_reducible refine' lC ?gF ?gv ?_ ?gk ?gl ?gd)); (case gF => assumption); (case gl => with_unfolding_all exact rfl); (case gv => walk_at "NMV"); (case gk => with_unfolding_all exact rfl); (case gd => with_unfolding_all exact rfl)))
  trivial
section
variable {w : World} {A : Around} {E : Value → Shared → Prop} {s : Shared}
theorem useRows {h₀ : Heap} {L : Addr} {m : Str → Option Value} {news : List (Addr × Obj)} {Q : Value → Shared → Prop} {x : Str} {t : Tok} (F : Fr h₀ L s.heap m) (N : News h₀ L s.heap news) (y : YP w s.heap) (hr : Room A 1) (hz : x.length ≤ 1048576)
    (k : ∀ R vs n h' tk', StrsAre vs (rowsOf x) → Fr h₀ L h' m → News h₀ L h' ((R, listOf vs.toArray n) :: news) → (∀ q ∈ news, R ≠ q.1) → Q (.ref R) { s with heap := h', toks := tk' }) : wpAny (model pw w) A (call (.ref 232) [.str x t]) Q E s := by
  refine useC F N (c_law_rows y hr hz) fun v h' tk' hp F' N' => ?_
  obtain ⟨R, vs, n, rfl, ho, hf, hs⟩ := hp
  refine k R vs n h' tk' hs F' (fun p hp => ?_) (fun q hq e => ?_)
  · rcases List.mem_cons.mp hp with rfl | hp
    · refine ⟨ho, fun e => ?_, ?_⟩
      · obtain ⟨oL, _, _, hL, _⟩ := F.ns
        rw [← e] at hL
        exact absurd (hf.symm.trans hL) (by simp)
      · cases e : h₀.get? R with
        | none => rfl
        | some o' => exact absurd (hf.symm.trans (F.keep _ _ e)) (by simp)
    · exact N' p hp
  · have := (N q hq).1
    rw [← e, hf] at this
    cases this
theorem rules_WkK_2 : True := by
  k_with "call ref" => ((with_reducible refine' useRows ?gF ?gN ?gy ?gr ?g0 ?_); (case gF => assumption); (case gN => assumption); (case gy => exact YP.fr (by assumption) (by assumption)); (case gr => exact Room.le (by assumption) (by decide)); (case g0 => assumption); intro _ _ _ _ _ _ _ _ _)
  trivial
set_option maxHeartbeats 3000000 in
theorem law5 {h₀ : Heap} {L a : Addr} {cd : Value} {m : Str → Option Value} {x : Str} {tx : Tok} {news : List (Addr × Obj)} {Q : Flow → Shared → Prop} (y : YP w h₀) (hr : Room A 6) (F : Fr h₀ L s.heap m) (N : News h₀ L s.heap news) (hv : m "told" = some (.str x tx)) (hz : x.length ≤ 1048576)
    (k : ∀ R vs n h' tk, StrsAre vs (rowsOf x) → (∀ q ∈ news, R ≠ q.1) → Fr h₀ L h' (fun y => if y = Str.ofString "rows" then some (.ref R) else m y) → News h₀ L h' ((R, listOf vs.toArray n) :: news) → wpAny (model pw w) A (execs ((fnBody (stAt 29)).drop 5) (EL L a cd)) Q (fun _ _ => False) { s with heap := h', toks := tk }) :
    wpAny (model pw w) A (execs ((fnBody (stAt 29)).drop 4) (EL L a cd)) Q (fun _ _ => False) s := by
  have hv' : m (Str.ofString "told") = some (.str x tx) := hv
  walk_at "STMT"
  rename StrsAre _ _ => hS
  rename Fr _ _ _ _ => F5
  rename News _ _ _ _ => N5
  rename ∀ q ∈ news, _ => hne
  exact k _ _ _ _ _ hS hne F5 N5
end
end Mine
end P_WkK
section P_WkL
open PySem PySem.W PySem.Calls PyProof.Rows
set_option linter.unusedVariables false
set_option maxRecDepth 100000
namespace Mine
theorem rules_WkL_1 : True := by
  k_with_none
  k_with "call type:type" => ((with_reducible refine' call_type_of (Tx := "bytes") (typeIs_bytes _ _ _) ?hnb ?_); (case hnb => decide))
  k_with "And" => ((with_reducible show YP _ _ ∧ wpAny _ _ (call (Value.ref _) _ _) _ _ _); refine' And.intro ?gA ?_; (case gA => exact YP.fr (by assumption) (by assumption)))
  k_with "getMethod ref" => (refine' listMethod_K ?gN ?gm PySem.F.slot_list_append PySem.F.type_list_append ?_; (case gN => assumption); (case gm => k_mem))
  k_with "call builtin:list.append" => ((refine' append_K ?gF ?gN ?gU ?_ ?gz; (case gF => assumption); (case gN => assumption); (case gU => k_upd); (case gz => first | assumption | (simp only [Array.size_push, List.size_toArray, List.length_append, List.length_cons, List.length_nil, sizeLine_eq] at *; omega) | size_fits)); intro _ _ _)
  k_with "call ref" => ((first
  | (with_reducible refine' useI ?gF ?gN (c_b64_value ?gy ?gr) ?_)
  | (with_reducible refine' useB ?gF ?gN (c_ascii_buffer ?gy ?gr) ?_)
  | (with_reducible refine' useB ?gF ?gN (c_buffer ?gy ?gr) ?_)
  | (with_reducible refine' useT ?gF ?gN (c_truth ?gy ?gr) ?_)); (case gF => assumption); (case gN => assumption); (case gy => exact YP.fr (by assumption) (by assumption)); (case gr => exact Room.le (by assumption) (by decide)); intros)
  k_with "eval Name" => (first | ((first | (with_reducible refine' lX ?gF ?gv ?_ ?gk ?gl ?gd) | (with_reducible refine' lC ?gF ?gv ?_ ?gk ?gl ?gd)); (case gF => assumption); (case gl => with_unfolding_all exact rfl); (case gv => first | (with_reducible assumption) | (with_unfolding_all exact rfl)); (case gk => with_unfolding_all exact rfl); (case gd => with_unfolding_all exact rfl)) | ((with_reducible refine' lX ?gF ?gv ?_ ?gk ?gl ?gd); (case gF => assumption); (case gl => with_unfolding_all exact rfl); (case gv => first | (with_reducible assumption) | (with_unfolding_all exact rfl)); (case gk => with_unfolding_all exact rfl); (case gd => with_unfolding_all exact rfl)) | ((first | (with_reducible refine' gX ?gF ?gy (g_law_piece _) ?_ ?gk ?gx ?gg ?gd) | (with_reducible refine' gX ?gF ?gy (g_law_rows _) ?_ ?gk ?gx ?gg ?gd) | (with_reducible refine' gX ?gF ?gy (g_law_in_fours _) ?_ ?gk ?gx ?gg ?gd) | (with_reducible refine' gX ?gF ?gy (g_law_prepares _) ?_ ?gk ?gx ?gg ?gd) | (with_reducible refine' gX ?gF ?gy (g_law_sends _) ?_ ?gk ?gx ?gg ?gd) | (with_reducible refine' gX ?gF ?gy (g_Authenticator _) ?_ ?gk ?gx ?gg ?gd)); (case gF => assumption); (case gy => assumption); (case gk => with_unfolding_all exact rfl); (case gx => with_unfolding_all exact rfl); (case gg => with_unfolding_all exact rfl); (case gd => with_unfolding_all exact rfl)) | ((first | (with_reducible refine' bX ?gF ?gy (n_range _) (b_range _) ?_ ?gk ?gx ?gg ?gb ?gd) | (with_reducible refine' bX ?gF ?gy (n_len _) (b_len _) ?_ ?gk ?gx ?gg ?gb ?gd)); (case gF => assumption); (case gy => assumption); (case gk => with_unfolding_all exact rfl); (case gx => with_unfolding_all exact rfl); (case gg => with_unfolding_all exact rfl); (case gb => with_unfolding_all exact rfl); (case gd => with_unfolding_all exact rfl)))
  k_with "storeName" => ((first | (with_reducible refine' sX ?gF ?gN ?_ ?gk ?gx) | (with_reducible refine' sC ?gF ?gN ?_ ?gk ?gx)); (case gF => assumption); (case gN => assumption); (case gk => with_unfolding_all exact rfl); (case gx => with_unfolding_all exact rfl); intro _ _ _)
  k_with "NMV" => first | (with_reducible assumption) | (with_reducible exact if_pos rfl) | ((refine Eq.trans (if_neg (by decide)) ?_); walk_at "NMV") | (with_unfolding_all exact rfl)
  k_with "ONE" => walk1
  k_with "callWith ref" => (first | (refine callWith_y ⟨_, _, (by with_unfolding_all exact rfl), (by with_unfolding_all exact rfl)⟩ ?_) | (refine callWith_m (f := 116) (YP.fr (by assumption) (by assumption)) (fun P => (k_keep P).1) ?_) | (refine callWith_c (YP.fr (by assumption) (by assumption)) ?_))
  k_with "STMT" => (walk1; repeat' ((fail_if_success (with_reducible show wpAny _ _ (execs _ _) _ _ _)); (fail_if_success (with_reducible show wpAny _ _ (eval (Expr.ListComp _ _ _ _) _) _ _ _)); (fail_if_success (with_reducible show wpAny _ _ (exec (Stmt.While _ _ _ _) _) _ _ _)); (fail_if_success (with_reducible show wpAny _ _ (exec (Stmt.For _ _ _ _ _) _) _ _ _)); walk1))
  k_with "eval Name" => (first | ((first | (with_reducible refine' gX_law_rows ?gF ?gy ?_ ?gk ?gx ?gg ?gd) | (with_reducible refine' gX_law_in_fours ?gF ?gy ?_ ?gk ?gx ?gg ?gd) | (with_reducible refine' gX_law_prepares ?gF ?gy ?_ ?gk ?gx ?gg ?gd) | (with_reducible refine' gX_law_sends ?gF ?gy ?_ ?gk ?gx ?gg ?gd) | (with_reducible refine' gX_Authenticator ?gF ?gy ?_ ?gk ?gx ?gg ?gd)); (case gF => assumption); (case gy => assumption); (case gk => with_unfolding_all exact rfl); (case gx => with_unfolding_all exact rfl); (case gg => with_unfolding_all exact rfl); (case gd => with_unfolding_all exact rfl)) | ((first | (with_reducible refine' bX_range ?gF ?gy ?_ ?gk ?gx ?gg ?gb ?gd) | (with_reducible refine' bX_len ?gF ?gy ?_ ?gk ?gx ?gg ?gb ?gd)); (case gF => assumption); (case gy => assumption); (case gk => with_unfolding_all exact rfl); (case gx => with_unfolding_all exact rfl); (case gg => with_unfolding_all exact rfl); (case gb => with_unfolding_all exact rfl); (case gd => with_unfolding_all exact rfl)) | ((first | (with_reducible refine' lX ?gF ?gv ?_ ?gk ?gl ?gd) | (with_reducible refine' lC ?gF ?gv ?_ ?gk ?gl ?gd)); (case gF => assumption); (case gl => with_unfolding_all exact rfl); (case gv => walk_at "NMV"); (case gk => with_unfolding_all exact rfl); (case gd => with_unfolding_all exact rfl)))
  trivial
section
variable {w : World} {A : Around} {E : Value → Shared → Prop} {s : Shared}
structure IFacts (es : List DictEntry) (f : Addr) : Prop where
  f1 : getL "mech" es = some (some (.ref f))
  f2 : getL "process" es = some none
  f3 : getL "encode" es = some none
  f4 : getL "decode" es = some none
theorem fresh_news {h₀ h h' : Heap} {L a : Addr} {m : Str → Option Value} {o : Obj} (F : Fr h₀ L h m) (hf : h.get? a = none) (ho : h'.get? a = some o) : h'.get? a = some o ∧ a ≠ L ∧ h₀.get? a = none := by
  refine ⟨ho, fun e => ?_, ?_⟩
  · obtain ⟨oL, _, _, hL, _⟩ := F.ns
    rw [← e] at hL
    exact absurd (hf.symm.trans hL) (by simp)
  · cases e : h₀.get? a with
    | none => rfl
    | some o' => exact absurd (hf.symm.trans (F.keep _ _ e)) (by simp)
theorem useMake {h₀ : Heap} {L f : Addr} {m : Str → Option Value} {news : List (Addr × Obj)} {Q : Value → Shared → Prop} (F : Fr h₀ L s.heap m) (N : News h₀ L s.heap news) (y : YP w s.heap) (hr : Room A 2)
    (k : ∀ x dx es n h' tk', IFacts es f → (∀ q ∈ news, x ≠ q.1 ∧ dx ≠ q.1) → Fr h₀ L h' m → News h₀ L h' ((x, instObj 133 dx) :: (dx, dictOf es n) :: news) → Q (.ref x) { s with heap := h', toks := tk' }) : wpAny (model pw w) A (call (.ref 133) [.ref f]) Q E s := by
  refine useC F N (c_make y hr) fun v h' tk' hp F' N' => ?_
  obtain ⟨x, dx, es, n, rfl, hx, hdx, nx, ndx, f1, f2, f3, f4⟩ := hp
  refine k x dx es n h' tk' ⟨f1, f2, f3, f4⟩ (fun q hq => ⟨fun e => ?_, fun e => ?_⟩) F' fun p hp => ?_
  · have := (N q hq).1
    rw [← e, nx] at this
    cases this
  · have := (N q hq).1
    rw [← e, ndx] at this
    cases this
  · rcases List.mem_cons.mp hp with rfl | hp
    · exact fresh_news F nx hx
    rcases List.mem_cons.mp hp with rfl | hp
    · exact fresh_news F ndx hdx
    · exact N' p hp
theorem instOf {h₀ h : Heap} {L x dx f : Addr} {es : List DictEntry} {n : Nat} {news : List (Addr × Obj)} (N : News h₀ L h ((x, instObj 133 dx) :: (dx, dictOf es n) :: news)) (i : IFacts es f) : InstOf h x dx f :=
  ⟨es, n, (N _ (.head _)).1, (N _ (.tail _ (.head _))).1, i.f1, i.f2, i.f3, i.f4⟩
theorem useProc {h₀ : Heap} {L : Addr} {m : Str → Option Value} {news : List (Addr × Obj)} {Q : Value → Shared → Prop} {X r : Str} {x dx f : Addr} {es : List DictEntry} {n : Nat} {t : Tok} (F : Fr h₀ L s.heap m) (N : News h₀ L s.heap ((x, instObj 133 dx) :: (dx, dictOf es n) :: news)) (i : IFacts es f) (y : YP w s.heap) (hr : Room A 4) (oX : Okx X) (oR : Okx r) (hf : ∃ o fd, (H7 w.params).get? f = some o ∧ o.data = .func fd) (hh : Hand w f (O X) r)
    (k : ∀ t' h' tk', Fr h₀ L h' m → News h₀ L h' ((x, instObj 133 dx) :: (dx, dictOf es n) :: news) → Q (.bytes (gv r) t') { s with heap := h', toks := tk' }) : wpAny (model pw w) A (call (.ref 116) [.ref x, .bytes (gv X) t]) Q E s :=
  useB F N (c_proc y hr (instOf N i) oX oR hf hh) k
theorem fn246 (P : Params) : ∃ o fd, (H7 P).get? 246 = some o ∧ o.data = .func fd := ⟨_, _, by with_unfolding_all exact rfl, by with_unfolding_all exact rfl⟩
theorem fn253 (P : Params) : ∃ o fd, (H7 P).get? 253 = some o ∧ o.data = .func fd := ⟨_, _, by with_unfolding_all exact rfl, by with_unfolding_all exact rfl⟩
theorem rules_WkL_2 : True := by
  k_with "call ref" => (first
  | ((with_reducible refine' useMake ?gF ?gN ?gy ?gr ?_); (case gF => assumption); (case gN => assumption); (case gy => exact YP.fr (by assumption) (by assumption)); (case gr => exact Room.le (by assumption) (by decide)); intro _ _ _ _ _ _ _ _ _ _)
  | ((with_reducible refine' useB ?gF ?gN (c_fours ?gy ?gr ?go) ?_); (case gF => assumption); (case gN => assumption); (case gy => exact YP.fr (by assumption) (by assumption)); (case gr => exact Room.le (by assumption) (by decide)); (case go => assumption); intro _ _ _ _ _)
  | ((with_reducible refine' useProc ?gF ?gN ?gi ?gy ?gr ?goX ?goR ?gf ?gh ?_); (case gF => assumption); (case gN => assumption); (case gh => assumption); (case gi => assumption); (case gy => exact YP.fr (by assumption) (by assumption)); (case gr => exact Room.le (by assumption) (by decide)); (case goX => assumption); (case goR => assumption); (case gf => first | exact fn246 _ | exact fn253 _); intro _ _ _ _ _))
  k_with "getMethod str" => (refine encM ?_)
  k_with "call builtin:str.encode" => ((refine encU (Okx.bad (by assumption)) (Okx.fit (by assumption)) ?_); intro _ _)
  k_with "getMethod ref" => ((with_reducible refine' processM ?gy ?gI ?_); (case gy => exact YP.fr (by assumption) (by assumption)); (case gI => exact instOf (by assumption) (by assumption)))
  trivial
set_option maxHeartbeats 3000000 in
theorem law6 {h₀ : Heap} {L a : Addr} {cd : Value} {m : Str → Option Value} {x r : Str} {tx : Tok} {news : List (Addr × Obj)} {Q : Flow → Shared → Prop} (y : YP w h₀) (hr : Room A 6) (F : Fr h₀ L s.heap m) (N : News h₀ L s.heap news) (hv : m (Str.ofString "text") = some (.str x tx)) (oX : Okx x) (oR : Okx r) (hh : Hand w 246 (O x) r)
    (k : ∀ G t n h' tk, (∀ q ∈ news, G ≠ q.1) → Fr h₀ L h' (fun y => if y = Str.ofString "given" then some (.ref G) else m y) → News h₀ L h' ((G, listOf [Value.bytes (gv r) t].toArray n) :: news) → wpAny (model pw w) A (execs ((fnBody (stAt 29)).drop 6) (EL L a cd)) Q (fun _ _ => False) { s with heap := h', toks := tk }) :
    wpAny (model pw w) A (execs ((fnBody (stAt 29)).drop 5) (EL L a cd)) Q (fun _ _ => False) s := by
  walk_at "STMT"
  rename_i x dx es n0 h1 tk1 i1 hne F1 N1 t2 k2 t3 h3 tk3 F3 N3 t4 h4 tk4 F4 N4 h5 F5 N5 h6 F6 N6
  refine k _ t4 0 h6 _ (fun q hq e => ?_) F6 fun p hp => ?_
  · have := Heap.lt_size (N4 q (.tail _ (.tail _ hq))).1
    rw [← e] at this
    exact Nat.lt_irrefl _ this
  · rcases List.mem_cons.mp hp with rfl | hp
    · exact N6 _ (.head _)
    · exact N6 p (.tail _ (.tail _ (.tail _ hp)))
theorem rules_WkL_3 : True := by
  k_with "subscriptTail" => (refine KItemAtList (by assumption) rfl ?_)
  trivial
set_option maxHeartbeats 3000000 in
theorem law7 {h₀ : Heap} {L a G : Addr} {cd : Value} {m : Str → Option Value} {x : Str} {tx t : Tok} {n : Nat} {news : List (Addr × Obj)} {Q : Flow → Shared → Prop} (y : YP w h₀) (hr : Room A 6) (F : Fr h₀ L s.heap m) (N : News h₀ L s.heap ((G, listOf [Value.bytes (gv x) t].toArray n) :: news)) (hv : m (Str.ofString "told") = some (.str x tx)) (hg : m (Str.ofString "given") = some (.ref G)) (oX : Okx x)
    (k : ∀ h' tk, Fr h₀ L h' m → News h₀ L h' ((G, listOf [Value.bytes (gv x) t].toArray n) :: news) → wpAny (model pw w) A (execs ((fnBody (stAt 29)).drop 7) (EL L a cd)) Q (fun _ _ => False) { s with heap := h', toks := tk }) :
    wpAny (model pw w) A (execs ((fnBody (stAt 29)).drop 6) (EL L a cd)) Q (fun _ _ => False) s := by
  walk_at "STMT"
  · exfalso
    rename ((gv x).toList != (gv x).toList) = true => hb
    simp at hb
  · rename Fr _ _ _ _ => F5
    rename News _ _ _ _ => N5
    walk_at "ONE"
    exact k _ _ F5 N5
end
end Mine
end P_WkL
section P_WkM
open PySem PySem.W PySem.Calls PyProof.Rows
set_option linter.unusedVariables false
set_option maxRecDepth 100000
namespace Mine
/-- what a turn of a for loop (its name a cell) leaves -/
inductive CNext (h₀ : Heap) (L C I : Addr) (oC oI : Obj) (J : (Str → Option Value) → List (Addr × Obj) → Prop) (s₂ : Shared) (s₃ : Shared) : Prop
  | mk (hp' : Heap) (tk' : Nat) (m₂ : Str → Option Value) (news₂ : List (Addr × Obj)) : s₃ = { s₂ with heap := hp', toks := tk' } →
      Fr h₀ L hp' m₂ →
      News h₀ L hp' ((C, oC) :: (I, oI) :: news₂) →
      (∀ p ∈ news₂, p.1 ≠ I ∧ p.1 ≠ C) →
      J m₂ news₂ → CNext h₀ L C I oC oI J s₂ s₃
noncomputable def CEnd (h₀ : Heap) (L C I : Addr) (oC oI : Obj) (J : (Str → Option Value) → List (Addr × Obj) → Prop) (s₂ : Shared) (Q : Flow → Shared → Prop) (f : Flow) (s₃ : Shared) : Prop :=
  match f with
  | .ret v => Q (.ret v) s₃
  | .brk => Q .next s₃
  | _ => CNext h₀ L C I oC oI J s₂ s₃
inductive CLoopi (w : World) (A : Around) (h₀ : Heap) (env : Env) (C : Addr) (body : List Stmt) (J : Nat → (Str → Option Value) → List (Addr × Obj) → Prop) (Q : Flow → Shared → Prop) (it : Value) (s₂ : Shared) : Prop
  | mk (I : Addr) (n : Nat) (V : Nat → Value → Prop) (St : Nat → Heap → Prop) (m : Str → Option Value) (news : List (Addr × Obj)) (oC : Obj) (v₀ : Option Value) : it = .ref I →
      Walks pw w A I [I] [I] n V St →
      St 0 s₂.heap →
      (∀ i h, St i h → ∃ o, h.get? I = some o) →
      h₀.get? I = none →
      I ≠ env.locals →
      I ≠ C →
      (∀ p ∈ news, p.1 ≠ I ∧ p.1 ≠ C) →
      Fr h₀ env.locals s₂.heap m →
      News h₀ env.locals s₂.heap ((C, oC) :: news) →
      oC.data = .cell v₀ →
      J 0 m news →
      (∀ (i : Nat) (v : Value) (m₁ : Str → Option Value) (news₁ : List (Addr × Obj)) (oC oI : Obj) (hp : Heap) (tk : Nat), i < n → V i v → J i m₁ news₁ → oC.data = .cell (some v) → (∀ p ∈ news₁, p.1 ≠ I ∧ p.1 ≠ C) → Fr h₀ env.locals hp m₁ → News h₀ env.locals hp ((C, oC) :: (I, oI) :: news₁) →
      wpAny (model pw w) A (execs body env) (CEnd h₀ env.locals C I oC oI (J (i + 1)) s₂ Q) (fun _ _ => False) { s₂ with heap := hp, toks := tk }) →
      (∀ m' news' hp tk, J n m' news' → Fr h₀ env.locals hp m' → News h₀ env.locals hp news' → Q .next { s₂ with heap := hp, toks := tk }) → CLoopi w A h₀ env C body J Q it s₂
structure CLoop (w : World) (A : Around) (h₀ : Heap) (env : Env) (C : Addr) (body : List Stmt) (J : Nat → (Str → Option Value) → List (Addr × Obj) → Prop) (Q : Flow → Shared → Prop) (it : Value) (s₂ : Shared) : Prop where
  out : CLoopi w A h₀ env C body J Q it s₂
inductive CS (h₀ : Heap) (L C I : Addr) (n : Nat) (St : Nat → Heap → Prop) (J : Nat → (Str → Option Value) → List (Addr × Obj) → Prop) (s₂ : Shared) (k : Nat) (s' : Shared) : Prop
  | mk (hp : Heap) (tk : Nat) (m' : Str → Option Value) (news' : List (Addr × Obj)) (i : Nat) (oC' : Obj) (v' : Option Value) : s' = { s₂ with heap := hp, toks := tk } →
      St i hp →
      Fr h₀ L hp m' →
      News h₀ L hp ((C, oC') :: news') →
      oC'.data = .cell v' →
      (∀ p ∈ news', p.1 ≠ I ∧ p.1 ≠ C) →
      J i m' news' →
      i ≤ n →
      k = n + 1 - i → CS h₀ L C I n St J s₂ k s'
section
variable {w : World} {A : Around} {s : Shared}
theorem for_cell {env : Env} {h₀ : Heap} {x : Str} {px pos : Pos} {iter : Expr} {body : List Stmt} {Q : Flow → Shared → Prop} {C : Addr} (J : Nat → (Str → Option Value) → List (Addr × Obj) → Prop)
    (hk : env.scope.kind = .function) (hx : env.kindOf x = some .cell) (hc : env.cells.lookup x = some C)
    (h : wpAny (model pw w) A (eval iter env) (fun xv s₁ => wpAny (model pw w) A (pyIter xv) (fun it s₂ => CLoop w A h₀ env C body J Q it s₂) (fun _ _ => False) s₁) (fun _ _ => False) s)
    (hs : ∀ x, foldedSetIterable iter env x = pure x := by intro _; rfl) :
    wpAny (model pw w) A (exec (.For (.Name x px) iter body [] pos) env) Q (fun _ _ => False) s := by
  refine wpAny_For (wpAny_mono h (fun xv s₁ h₁ => wpAny_mono h₁ (fun it s₂ h₂ => ?_) fun _ _ e => e) fun _ _ e => e) hs
  obtain ⟨I, n, V, St, m, news, oC, v₀, rfl, W, hst, hSt, hI0, hIL, hIC, hap, F, N, hcell, h0, step, done⟩ := h₂.out
  refine codeAny_forLoop
    (CS h₀ env.locals C I n St J s₂) ?_ (n + 1)
    ⟨s₂.heap, s₂.toks, m, news, 0, oC, v₀, rfl, hst, F, N, hcell, hap, h0, Nat.zero_le _, rfl⟩
  rintro k s' ⟨hp, tk, m', news', i, oC', v', rfl, hst', F', N', hcell', hap', hJ, hi, rfl⟩
  have next : ∀ h₁ : Heap, (∀ b o, b ∉ [I] → hp.get? b = some o → h₁.get? b = some o) → Fr h₀ env.locals h₁ m' ∧ News h₀ env.locals h₁ ((C, oC') :: news') := fun h₁ hk₁ => by
    have nI : ∀ b, b ≠ I → b ∉ [I] := fun b hb hm => hb (List.mem_singleton.mp hm)
    refine ⟨⟨F'.ns.at' fun o e => hk₁ _ o (nI _ (Ne.symm hIL)) e, fun b o e => hk₁ b o (nI _ fun e' => ?_) (F'.keep b o e), F'.above⟩, fun p hp => ⟨hk₁ _ _ (nI _ ?_) (N' p hp).1, (N' p hp).2⟩⟩
    · rw [e', hI0] at e; cases e
    · rcases List.mem_cons.mp hp with rfl | hp
      · exact Ne.symm hIC
      · exact (hap' p hp).1
  by_cases hlt : i < n
  · refine W.item i _ _ _ hlt hst' fun v h₁ tk₁ hP hst₁ hk₁ => ?_
    obtain ⟨F₁, N₁⟩ := next h₁ hk₁
    obtain ⟨oI, hoI⟩ := hSt _ _ hst₁
    have nC := N₁ _ (.head _)
    refine wpAny_assign_Name (wpAny_storeName_cell hk hx hc ⟨oC', nC.1, hcell'⟩ fun h₂ hv₂ hs₂ => ?_)
    obtain ⟨oC2, gC2, dC2⟩ := hv₂
    have F₂ : Fr h₀ env.locals h₂ m' := F₁.change hs₂ nC.2.1 nC.2.2
    have N₂ : News h₀ env.locals h₂ ((C, oC2) :: news') := News.setAt (own := []) N₁ (fun _ hp => nomatch hp) (fun p hp => (hap' p hp).2) hs₂ gC2
    have gI2 : h₂.get? I = some oI := (hs₂.2 I hIC).trans hoI
    refine wpAny_mono (step i v m' news' oC2 oI h₂ _ hlt hP hJ dC2 hap' F₂ (fun p hp => ?_)) (fun f s₃ h₃ => ?_) fun _ _ e => e.elim
    · rcases List.mem_cons.mp hp with rfl | hp
      · exact N₂ _ (.head _)
      rcases List.mem_cons.mp hp with rfl | hp
      · exact ⟨gI2, hIL, hI0⟩
      · exact N₂ _ (.tail _ hp)
    · have fin : CNext h₀ env.locals C I oC2 oI (J (i + 1)) s₂ s₃ → ∃ m, m < n + 1 - i ∧ CS h₀ env.locals C I n St J s₂ m s₃ := by
        rintro ⟨hp₃, tk₃, m₃, news₃, rfl, F₃, N₃, hap₃, hJ₃⟩
        refine ⟨n + 1 - (i + 1), by (first | lia | omega), hp₃, tk₃, m₃, news₃, i + 1, oC2, _, rfl, ?_, F₃, ?_, dC2, hap₃, hJ₃, hlt, rfl⟩
        · refine W.frame _ _ _ hst₁ fun b hb o e => ?_
          rw [List.mem_singleton.mp hb] at e ⊢
          rw [hoI] at e
          rw [← Option.some.inj e]
          exact (N₃ _ (.tail _ (.head _))).1
        · intro p hp
          rcases List.mem_cons.mp hp with rfl | hp
          · exact N₃ _ (.head _)
          · exact N₃ _ (.tail _ (.tail _ hp))
      cases f with
      | ret v => exact h₃
      | brk => exact h₃
      | next => exact fin h₃
      | cont => exact fin h₃
  · have hin : i = n := by (first | lia | omega)
    subst hin
    refine W.done _ _ _ hst' fun h₁ tk₁ hk₁ => wpAny_execs_nil ?_
    obtain ⟨F₁, N₁⟩ := next h₁ hk₁
    exact done m' news' h₁ tk₁ hJ F₁ fun p hp => N₁ p (.tail _ hp)
end
end Mine
end P_WkM
section P_WkN
open PySem PySem.W PySem.Calls PyProof.Rows
set_option linter.unusedVariables false
set_option maxRecDepth 100000
namespace Mine
theorem rules_WkN_1 : True := by
  k_with_none
  k_with "call type:type" => ((with_reducible refine' call_type_of (Tx := "bytes") (typeIs_bytes _ _ _) ?hnb ?_); (case hnb => decide))
  k_with "And" => ((with_reducible show YP _ _ ∧ wpAny _ _ (call (Value.ref _) _ _) _ _ _); refine' And.intro ?gA ?_; (case gA => exact YP.fr (by assumption) (by assumption)))
  k_with "getMethod ref" => (refine' listMethod_K ?gN ?gm PySem.F.slot_list_append PySem.F.type_list_append ?_; (case gN => assumption); (case gm => k_mem))
  k_with "call builtin:list.append" => ((refine' append_K ?gF ?gN ?gU ?_ ?gz; (case gF => assumption); (case gN => assumption); (case gU => k_upd); (case gz => first | assumption | (simp only [Array.size_push, List.size_toArray, List.length_append, List.length_cons, List.length_nil, sizeLine_eq] at *; (first | lia | omega)) | size_fits)); intro _ _ _)
  k_with "call ref" => ((first
  | (with_reducible refine' useI ?gF ?gN (c_b64_value ?gy ?gr) ?_)
  | (with_reducible refine' useB ?gF ?gN (c_ascii_buffer ?gy ?gr) ?_)
  | (with_reducible refine' useB ?gF ?gN (c_buffer ?gy ?gr) ?_)
  | (with_reducible refine' useT ?gF ?gN (c_truth ?gy ?gr) ?_)); (case gF => assumption); (case gN => assumption); (case gy => exact YP.fr (by assumption) (by assumption)); (case gr => exact Room.le (by assumption) (by decide)); intros)
  k_with "eval Name" => (first | ((first | (with_reducible refine' lX ?gF ?gv ?_ ?gk ?gl ?gd) | (with_reducible refine' lC ?gF ?gv ?_ ?gk ?gl ?gd)); (case gF => assumption); (case gl => with_unfolding_all exact rfl); (case gv => first | (with_reducible assumption) | (with_unfolding_all exact rfl)); (case gk => with_unfolding_all exact rfl); (case gd => with_unfolding_all exact rfl)) | ((with_reducible refine' lX ?gF ?gv ?_ ?gk ?gl ?gd); (case gF => assumption); (case gl => with_unfolding_all exact rfl); (case gv => first | (with_reducible assumption) | (with_unfolding_all exact rfl)); (case gk => with_unfolding_all exact rfl); (case gd => with_unfolding_all exact rfl)) | ((first | (with_reducible refine' gX ?gF ?gy (g_law_piece _) ?_ ?gk ?gx ?gg ?gd) | (with_reducible refine' gX ?gF ?gy (g_law_rows _) ?_ ?gk ?gx ?gg ?gd) | (with_reducible refine' gX ?gF ?gy (g_law_in_fours _) ?_ ?gk ?gx ?gg ?gd) | (with_reducible refine' gX ?gF ?gy (g_law_prepares _) ?_ ?gk ?gx ?gg ?gd) | (with_reducible refine' gX ?gF ?gy (g_law_sends _) ?_ ?gk ?gx ?gg ?gd) | (with_reducible refine' gX ?gF ?gy (g_Authenticator _) ?_ ?gk ?gx ?gg ?gd)); (case gF => assumption); (case gy => assumption); (case gk => with_unfolding_all exact rfl); (case gx => with_unfolding_all exact rfl); (case gg => with_unfolding_all exact rfl); (case gd => with_unfolding_all exact rfl)) | ((first | (with_reducible refine' bX ?gF ?gy (n_range _) (b_range _) ?_ ?gk ?gx ?gg ?gb ?gd) | (with_reducible refine' bX ?gF ?gy (n_len _) (b_len _) ?_ ?gk ?gx ?gg ?gb ?gd)); (case gF => assumption); (case gy => assumption); (case gk => with_unfolding_all exact rfl); (case gx => with_unfolding_all exact rfl); (case gg => with_unfolding_all exact rfl); (case gb => with_unfolding_all exact rfl); (case gd => with_unfolding_all exact rfl)))
  k_with "storeName" => ((first | (with_reducible refine' sX ?gF ?gN ?_ ?gk ?gx) | (with_reducible refine' sC ?gF ?gN ?_ ?gk ?gx)); (case gF => assumption); (case gN => assumption); (case gk => with_unfolding_all exact rfl); (case gx => with_unfolding_all exact rfl); intro _ _ _)
  k_with "NMV" => first | (with_reducible assumption) | (with_reducible exact if_pos rfl) | ((refine Eq.trans (if_neg (by decide)) ?_); walk_at "NMV") | (with_unfolding_all exact rfl)
  k_with "callWith ref" => (first | (refine callWith_y ⟨_, _, (by with_unfolding_all exact rfl), (by with_unfolding_all exact rfl)⟩ ?_) | (refine callWith_m (f := 116) (YP.fr (by assumption) (by assumption)) (fun P => (k_keep P).1) ?_) | (refine callWith_c (YP.fr (by assumption) (by assumption)) ?_))
  k_with "STMT" => (walk1; repeat' ((fail_if_success (with_reducible show wpAny _ _ (execs _ _) _ _ _)); (fail_if_success (with_reducible show wpAny _ _ (eval (Expr.ListComp _ _ _ _) _) _ _ _)); (fail_if_success (with_reducible show wpAny _ _ (exec (Stmt.While _ _ _ _) _) _ _ _)); (fail_if_success (with_reducible show wpAny _ _ (exec (Stmt.For _ _ _ _ _) _) _ _ _)); walk1))
  k_with "eval Name" => (first | ((first | (with_reducible refine' gX_law_rows ?gF ?gy ?_ ?gk ?gx ?gg ?gd) | (with_reducible refine' gX_law_in_fours ?gF ?gy ?_ ?gk ?gx ?gg ?gd) | (with_reducible refine' gX_law_prepares ?gF ?gy ?_ ?gk ?gx ?gg ?gd) | (with_reducible refine' gX_law_sends ?gF ?gy ?_ ?gk ?gx ?gg ?gd) | (with_reducible refine' gX_Authenticator ?gF ?gy ?_ ?gk ?gx ?gg ?gd)); (case gF => assumption); (case gy => assumption); (case gk => with_unfolding_all exact rfl); (case gx => with_unfolding_all exact rfl); (case gg => with_unfolding_all exact rfl); (case gd => with_unfolding_all exact rfl)) | ((first | (with_reducible refine' bX_range ?gF ?gy ?_ ?gk ?gx ?gg ?gb ?gd) | (with_reducible refine' bX_len ?gF ?gy ?_ ?gk ?gx ?gg ?gb ?gd)); (case gF => assumption); (case gy => assumption); (case gk => with_unfolding_all exact rfl); (case gx => with_unfolding_all exact rfl); (case gg => with_unfolding_all exact rfl); (case gb => with_unfolding_all exact rfl); (case gd => with_unfolding_all exact rfl)) | ((first | (with_reducible refine' lX ?gF ?gv ?_ ?gk ?gl ?gd) | (with_reducible refine' lC ?gF ?gv ?_ ?gk ?gl ?gd)); (case gF => assumption); (case gl => with_unfolding_all exact rfl); (case gv => walk_at "NMV"); (case gk => with_unfolding_all exact rfl); (case gd => with_unfolding_all exact rfl)))
  k_with "call ref" => (first
  | ((with_reducible refine' useMake ?gF ?gN ?gy ?gr ?_); (case gF => assumption); (case gN => assumption); (case gy => exact YP.fr (by assumption) (by assumption)); (case gr => exact Room.le (by assumption) (by decide)); intro _ _ _ _ _ _ _ _ _ _)
  | ((with_reducible refine' useB ?gF ?gN (c_fours ?gy ?gr ?go) ?_); (case gF => assumption); (case gN => assumption); (case gy => exact YP.fr (by assumption) (by assumption)); (case gr => exact Room.le (by assumption) (by decide)); (case go => assumption); intro _ _ _ _ _)
  | ((with_reducible refine' useProc ?gF ?gN ?gi ?gy ?gr ?goX ?goR ?gf ?gh ?_); (case gF => assumption); (case gN => assumption); (case gh => assumption); (case gi => assumption); (case gy => exact YP.fr (by assumption) (by assumption)); (case gr => exact Room.le (by assumption) (by decide)); (case goX => assumption); (case goR => assumption); (case gf => first | exact fn246 _ | exact fn253 _); intro _ _ _ _ _))
  k_with "getMethod str" => (refine encM ?_)
  k_with "call builtin:str.encode" => ((refine encU (Okx.bad (by assumption)) (Okx.fit (by assumption)) ?_); intro _ _)
  k_with "getMethod ref" => ((with_reducible refine' processM ?gy ?gI ?_); (case gy => exact YP.fr (by assumption) (by assumption)); (case gI => exact instOf (by assumption) (by assumption)))
  trivial
noncomputable def hb29 : List Stmt := by
  refine (?g : ∀ a b c d p r, (fnBody (stAt 29)).drop 7 = Stmt.For a b c d p :: r → List Stmt) _ _ _ _ _ _ rfl
  exact fun a b c d p r _ => c
section
variable {w : World} {A : Around} {E : Value → Shared → Prop} {s : Shared}
theorem appU {h₀ : Heap} {L G : Addr} {m : Str → Option Value} {own rest : List (Addr × Obj)} {gs : List Value} {n : Nat} {v : Value} {Q : Value → Shared → Prop} (F : Fr h₀ L s.heap m) (N : News h₀ L s.heap (own ++ (G, listOf gs.toArray n) :: rest)) (h1 : ∀ p ∈ own, p.1 ≠ G) (h2 : ∀ p ∈ rest, p.1 ≠ G) (hz : gs.length ≤ 100000)
    (k : ∀ h' n', Fr h₀ L h' m → News h₀ L h' (own ++ (G, listOf (gs ++ [v]).toArray n') :: rest) → Q .none { s with heap := h' }) : wpAny (model pw w) A (call (.builtin "list.append") [.ref G, v]) Q E s := by
  have nG := N _ (List.mem_append_right _ (.head _))
  refine wpAny_list_append_plain (items := gs.toArray) ⟨n, nG.1⟩ (fun h₄ hl₄ hs₄ => ?_) (by rw [List.size_toArray, sizeLine_eq]; (first | lia | omega))
  obtain ⟨n4, g4⟩ := hl₄
  exact k h₄ n4 (F.change hs₄ nG.2.1 nG.2.2) (News.setAt N h1 h2 hs₄ (by rw [g4]; simp))
theorem lastM {h₀ : Heap} {L D : Addr} {us : List Value} {z : Value} {n : Nat} {t : Tok} {news : List (Addr × Obj)} {value slice : Expr} {Q : Value → Shared → Prop} (N : News h₀ L s.heap news) (hm : (D, listOf (us ++ [z]).toArray n) ∈ news) (h : Q z s)
    (hs : subscripted slice false (.ref D) (.int (-1) t) = operate [.ref D, .int (-1) t] (getItem (.ref D) (.int (-1) t)) := by with_unfolding_all rfl) (hg : ∀ r, letTemporaryGo value (.ref D) r = pure () := by intro _; with_unfolding_all rfl) : wpAny (model pw w) A (subscriptTail value slice (.ref D) (.int (-1) t)) Q E s :=
  kim_back N hm rfl rfl (by decide) (by rw [List.length_append]; simp only [List.length_cons, List.length_nil]; (first | lia | omega)) (by decide) (x := z) (by
    rw [List.length_append, show ((-1 : Int) + ((us.length + [z].length : Nat) : Int)).toNat = us.length by simp only [List.length_cons, List.length_nil]; (first | lia | omega)]
    simp) h hs hg
theorem rules_WkN_2 : True := by
  k_with "subscriptTail" => (refine lastM (us := _) (by assumption) (by k_mem) ?_)
  trivial
set_option maxHeartbeats 3000000 in
theorem turnA {h₀ : Heap} {L a G : Addr} {cd : Value} {m : Str → Option Value} {X : Str} {t : Tok} {n : Nat} {us : List Value} {rest : List (Addr × Obj)} {Q : Flow → Shared → Prop} (y : YP w h₀) (hr : Room A 6) (F : Fr h₀ L s.heap m) (N : News h₀ L s.heap ((G, listOf (us ++ [Value.bytes (gv X) t]).toArray n) :: rest)) (hG : ∀ p ∈ rest, p.1 ≠ G) (hg : m (Str.ofString "given") = some (.ref G)) (oX : Okx X) (oR : Okx (dotted (crlfed X))) (hS : SubOk X) (hz : us.length ≤ 1000)
    (k : ∀ n' t' h' tk, Fr h₀ L h' m → News h₀ L h' ((G, listOf (us ++ [Value.bytes (gv X) t] ++ [Value.bytes (gv (dotted (crlfed X))) t']).toArray n') :: rest) → wpAny (model pw w) A (execs (hb29.drop 1) (EL L a cd)) Q (fun _ _ => False) { s with heap := h', toks := tk }) :
    wpAny (model pw w) A (execs hb29 (EL L a cd)) Q (fun _ _ => False) s := by
  have hh : Hand w 253 (O X) (dotted (crlfed X)) := hand_sends oX hS
  walk_at "STMT"
  rename ∀ q ∈ (G, _) :: rest, _ => hne
  rename Fr _ _ _ _ => F1
  rename News _ _ _ _ => N1
  have hx := hne _ (.head _)
  refine appU (own := [_, _]) F1 N1 (fun p hp => ?_) hG (by simp only [List.length_append, List.length_cons, List.length_nil]; (first | lia | omega)) (fun h' n' F2 N2 => ?_)
  · rcases List.mem_cons.mp hp with rfl | hp
    · exact hx.1
    · rw [List.mem_singleton.mp hp]; exact hx.2
  · dsimp only
    exact k n' _ h' _ F2 fun p hp => N2 p (List.mem_append_right _ hp)
end
end Mine
end P_WkN
section P_WkP
open PySem PySem.W PySem.Calls PyProof.Rows
set_option linter.unusedVariables false
set_option maxRecDepth 100000
namespace Mine
theorem rules_WkP_1 : True := by
  k_with_none
  k_with "call type:type" => ((with_reducible refine' call_type_of (Tx := "bytes") (typeIs_bytes _ _ _) ?hnb ?_); (case hnb => decide))
  k_with "And" => ((with_reducible show YP _ _ ∧ wpAny _ _ (call (Value.ref _) _ _) _ _ _); refine' And.intro ?gA ?_; (case gA => exact YP.fr (by assumption) (by assumption)))
  k_with "getMethod ref" => (refine' listMethod_K ?gN ?gm PySem.F.slot_list_append PySem.F.type_list_append ?_; (case gN => assumption); (case gm => k_mem))
  k_with "call builtin:list.append" => ((refine' append_K ?gF ?gN ?gU ?_ ?gz; (case gF => assumption); (case gN => assumption); (case gU => k_upd); (case gz => first | assumption | (simp only [Array.size_push, List.size_toArray, List.length_append, List.length_cons, List.length_nil, sizeLine_eq] at *; (first | lia | omega)) | size_fits)); intro _ _ _)
  k_with "call ref" => ((first
  | (with_reducible refine' useI ?gF ?gN (c_b64_value ?gy ?gr) ?_)
  | (with_reducible refine' useB ?gF ?gN (c_ascii_buffer ?gy ?gr) ?_)
  | (with_reducible refine' useB ?gF ?gN (c_buffer ?gy ?gr) ?_)
  | (with_reducible refine' useT ?gF ?gN (c_truth ?gy ?gr) ?_)); (case gF => assumption); (case gN => assumption); (case gy => exact YP.fr (by assumption) (by assumption)); (case gr => exact Room.le (by assumption) (by decide)); intros)
  k_with "eval Name" => (first | ((first | (with_reducible refine' lX ?gF ?gv ?_ ?gk ?gl ?gd) | (with_reducible refine' lC ?gF ?gv ?_ ?gk ?gl ?gd)); (case gF => assumption); (case gl => with_unfolding_all exact rfl); (case gv => first | (with_reducible assumption) | (with_unfolding_all exact rfl)); (case gk => with_unfolding_all exact rfl); (case gd => with_unfolding_all exact rfl)) | ((with_reducible refine' lX ?gF ?gv ?_ ?gk ?gl ?gd); (case gF => assumption); (case gl => with_unfolding_all exact rfl); (case gv => first | (with_reducible assumption) | (with_unfolding_all exact rfl)); (case gk => with_unfolding_all exact rfl); (case gd => with_unfolding_all exact rfl)) | ((first | (with_reducible refine' gX ?gF ?gy (g_law_piece _) ?_ ?gk ?gx ?gg ?gd) | (with_reducible refine' gX ?gF ?gy (g_law_rows _) ?_ ?gk ?gx ?gg ?gd) | (with_reducible refine' gX ?gF ?gy (g_law_in_fours _) ?_ ?gk ?gx ?gg ?gd) | (with_reducible refine' gX ?gF ?gy (g_law_prepares _) ?_ ?gk ?gx ?gg ?gd) | (with_reducible refine' gX ?gF ?gy (g_law_sends _) ?_ ?gk ?gx ?gg ?gd) | (with_reducible refine' gX ?gF ?gy (g_Authenticator _) ?_ ?gk ?gx ?gg ?gd)); (case gF => assumption); (case gy => assumption); (case gk => with_unfolding_all exact rfl); (case gx => with_unfolding_all exact rfl); (case gg => with_unfolding_all exact rfl); (case gd => with_unfolding_all exact rfl)) | ((first | (with_reducible refine' bX ?gF ?gy (n_range _) (b_range _) ?_ ?gk ?gx ?gg ?gb ?gd) | (with_reducible refine' bX ?gF ?gy (n_len _) (b_len _) ?_ ?gk ?gx ?gg ?gb ?gd)); (case gF => assumption); (case gy => assumption); (case gk => with_unfolding_all exact rfl); (case gx => with_unfolding_all exact rfl); (case gg => with_unfolding_all exact rfl); (case gb => with_unfolding_all exact rfl); (case gd => with_unfolding_all exact rfl)))
  k_with "storeName" => ((first | (with_reducible refine' sX ?gF ?gN ?_ ?gk ?gx) | (with_reducible refine' sC ?gF ?gN ?_ ?gk ?gx)); (case gF => assumption); (case gN => assumption); (case gk => with_unfolding_all exact rfl); (case gx => with_unfolding_all exact rfl); intro _ _ _)
  k_with "NMV" => first | (with_reducible assumption) | (with_reducible exact if_pos rfl) | ((refine Eq.trans (if_neg (by decide)) ?_); walk_at "NMV") | (with_unfolding_all exact rfl)
  k_with "MINEL" => repeat' ((fail_if_success (with_reducible show wpAny _ _ (eval (Expr.ListComp _ _ _ _) _) _ _ _)); (fail_if_success (with_reducible show InvEndN _ _ _ _ _ _ _)); (fail_if_success (with_reducible show WNext _ _ _ _ _ _ _ _ _ _ _)); (fail_if_success (with_reducible show wpAny _ _ (exec (Stmt.While _ _ _ _) _) _ _ _)); (fail_if_success (with_reducible show wpAny _ _ (exec (Stmt.For _ _ _ _ _) _) _ _ _)); walk1)
  k_with "ONE" => walk1
  k_with "callWith ref" => (first | (refine callWith_y ⟨_, _, (by with_unfolding_all exact rfl), (by with_unfolding_all exact rfl)⟩ ?_) | (refine callWith_m (f := 116) (YP.fr (by assumption) (by assumption)) (fun P => (k_keep P).1) ?_) | (refine callWith_c (YP.fr (by assumption) (by assumption)) ?_))
  k_with "STMT" => (walk1; repeat' ((fail_if_success (with_reducible show wpAny _ _ (execs _ _) _ _ _)); (fail_if_success (with_reducible show wpAny _ _ (eval (Expr.ListComp _ _ _ _) _) _ _ _)); (fail_if_success (with_reducible show wpAny _ _ (exec (Stmt.While _ _ _ _) _) _ _ _)); (fail_if_success (with_reducible show wpAny _ _ (exec (Stmt.For _ _ _ _ _) _) _ _ _)); walk1))
  k_with "eval Name" => (first | ((first | (with_reducible refine' gX_law_rows ?gF ?gy ?_ ?gk ?gx ?gg ?gd) | (with_reducible refine' gX_law_in_fours ?gF ?gy ?_ ?gk ?gx ?gg ?gd) | (with_reducible refine' gX_law_prepares ?gF ?gy ?_ ?gk ?gx ?gg ?gd) | (with_reducible refine' gX_law_sends ?gF ?gy ?_ ?gk ?gx ?gg ?gd) | (with_reducible refine' gX_Authenticator ?gF ?gy ?_ ?gk ?gx ?gg ?gd)); (case gF => assumption); (case gy => assumption); (case gk => with_unfolding_all exact rfl); (case gx => with_unfolding_all exact rfl); (case gg => with_unfolding_all exact rfl); (case gd => with_unfolding_all exact rfl)) | ((first | (with_reducible refine' bX_range ?gF ?gy ?_ ?gk ?gx ?gg ?gb ?gd) | (with_reducible refine' bX_len ?gF ?gy ?_ ?gk ?gx ?gg ?gb ?gd)); (case gF => assumption); (case gy => assumption); (case gk => with_unfolding_all exact rfl); (case gx => with_unfolding_all exact rfl); (case gg => with_unfolding_all exact rfl); (case gb => with_unfolding_all exact rfl); (case gd => with_unfolding_all exact rfl)) | ((first | (with_reducible refine' lX ?gF ?gv ?_ ?gk ?gl ?gd) | (with_reducible refine' lC ?gF ?gv ?_ ?gk ?gl ?gd)); (case gF => assumption); (case gl => with_unfolding_all exact rfl); (case gv => walk_at "NMV"); (case gk => with_unfolding_all exact rfl); (case gd => with_unfolding_all exact rfl)))
  k_with "call ref" => (first
  | ((with_reducible refine' useMake ?gF ?gN ?gy ?gr ?_); (case gF => assumption); (case gN => assumption); (case gy => exact YP.fr (by assumption) (by assumption)); (case gr => exact Room.le (by assumption) (by decide)); intro _ _ _ _ _ _ _ _ _ _)
  | ((with_reducible refine' useB ?gF ?gN (c_fours ?gy ?gr ?go) ?_); (case gF => assumption); (case gN => assumption); (case gy => exact YP.fr (by assumption) (by assumption)); (case gr => exact Room.le (by assumption) (by decide)); (case go => assumption); intro _ _ _ _ _)
  | ((with_reducible refine' useProc ?gF ?gN ?gi ?gy ?gr ?goX ?goR ?gf ?gh ?_); (case gF => assumption); (case gN => assumption); (case gh => assumption); (case gi => assumption); (case gy => exact YP.fr (by assumption) (by assumption)); (case gr => exact Room.le (by assumption) (by decide)); (case goX => assumption); (case goR => assumption); (case gf => first | exact fn246 _ | exact fn253 _); intro _ _ _ _ _))
  k_with "getMethod str" => (refine encM ?_)
  k_with "call builtin:str.encode" => ((refine encU (Okx.bad (by assumption)) (Okx.fit (by assumption)) ?_); intro _ _)
  k_with "getMethod ref" => ((with_reducible refine' processM ?gy ?gI ?_); (case gy => exact YP.fr (by assumption) (by assumption)); (case gI => exact instOf (by assumption) (by assumption)))
  trivial
theorem cH {M : Model} {A : Around} {E : Value → Shared → Prop} {s : Shared} {env : Env} {h₀ : Heap} {L L' c : Addr} {o : Obj} {news : List (Addr × Obj)} {pos : Pos} {v : Value} {Q : Value → Shared → Prop} (N : News h₀ L s.heap news) (hc : env.cells.lookup (Str.ofString "hand") = some c) (hm : (c, o) ∈ news) (hd : o.data = .cell (some v)) (h : Q v s)
    (hk : env.scope.kind = .function) (hx : env.kindOf (Str.ofString "hand") = some .cell) : wpAny M A (eval (.Name (Str.ofString "hand") pos) env) Q E s := cX N hc hm hd h hk hx (by decide)
theorem rules_WkP_2 : True := by
  k_with "eval Name" => ((with_reducible refine' cH (L' := 0) ?gN ?gc ?gm ?gd ?_ ?gk ?gx); (case gN => assumption); (case gc => with_unfolding_all exact rfl); (case gm => with_unfolding_all k_mem); (case gd => assumption); (case gk => with_unfolding_all exact rfl); (case gx => with_unfolding_all exact rfl))
  trivial
theorem lF {M : Model} {A : Around} {E : Value → Shared → Prop} {s : Shared} {cs : Scope} {cl : List (Str × Addr)} {C : Addr} {env : Env} {h₀ : Heap} {m : Str → Option Value} {x : Str} {pos : Pos} {v : Value} {Q : Value → Shared → Prop} (F : Fr h₀ C s.heap m) (hv : m x = some v) (h : Q v s)
    (hk : cs.kind = .function) (hx : (compEnvC cs cl C env).kindOf x = some .local) (hd : (x == ("__debug__" : Str)) = false) : wpAny M A (eval (.Name x pos) (compEnvC cs cl C env)) Q E s := wpAny_Name (wpAny_loadName_local (env := compEnvC cs cl C env) hk hx F.ns hv h) hd
theorem sF {M : Model} {A : Around} {E : Value → Shared → Prop} {s : Shared} {cs : Scope} {cl : List (Str × Addr)} {C : Addr} {env : Env} {h₀ : Heap} {m : Str → Option Value} {x : Str} {v : Value} {news : List (Addr × Obj)} {Q : Unit → Shared → Prop} (F : Fr h₀ C s.heap m) (N : News h₀ C s.heap news)
    (h : ∀ h', Fr h₀ C h' (fun y => if y = x then some v else m y) → News h₀ C h' news → Q () { s with heap := h', toks := s.toks + 1 })
    (hk : cs.kind = .function) (hx : (compEnvC cs cl C env).kindOf x = some .local) : wpAny M A (storeName (compEnvC cs cl C env) x v) Q E s :=
  wpAny_storeName_local (env := compEnvC cs cl C env) hx F.ns (fun h' hn hs => h h' (F.set hn hs) (N.set hs)) (by show (cs.kind == .class || (cs.kind == .module && _)) = false; rw [hk]; rfl)
theorem rules_WkP_3 : True := by
  k_with "eval Name" => ((with_reducible refine' lF ?gF ?gv ?_ ?gk ?gl ?gd); (case gF => assumption); (case gl => with_unfolding_all exact rfl); (case gv => first | (with_reducible assumption) | (with_unfolding_all exact rfl)); (case gk => with_unfolding_all exact rfl); (case gd => with_unfolding_all exact rfl))
  k_with "storeName" => ((with_reducible refine' sF ?gF ?gN ?_ ?gk ?gx); (case gF => assumption); (case gN => assumption); (case gk => with_unfolding_all exact rfl); (case gx => with_unfolding_all exact rfl); intro _ _ _)
  trivial
noncomputable def dotRow (k : Int) (r : Str) : Str := if (Txt.slice r none (some 1) == Str.ofString ".") = true then Txt.mul (Str.ofString ".") k ++ r else r
noncomputable def sentOf (k : Int) (rows : List Str) : Str := Txt.join (Str.ofString "\r\n") (rows.map (dotRow k))
section
variable {w : World} {A : Around} {E : Value → Shared → Prop} {s : Shared}
theorem strs_get {vs : List Value} {ys : List Str} (h : StrsAre vs ys) : ∀ {i : Nat} {v : Value}, vs[i]? = some v → ∃ x t, v = .str x t ∧ ys[i]? = some x := by
  induction h with
  | nil => intro i v e; simp at e
  | cons c t _ ih =>
    intro i v e
    cases i with
    | zero => simp at e; exact ⟨c, t, e.symm, rfl⟩
    | succ i => simp at e; obtain ⟨c', t', h1, h2⟩ := ih e; exact ⟨c', t', h1, by simpa using h2⟩
theorem strsAre_app : ∀ {xs ys : List Value} {ms : List Str}, StrsAre (xs ++ ys) ms → ∃ a b, ms = a ++ b ∧ StrsAre xs a ∧ StrsAre ys b
  | [], ys, ms, h => ⟨[], ms, rfl, .nil, h⟩
  | x :: xs, ys, ms, h => by
    cases h with
    | cons c t h =>
      obtain ⟨a, b, rfl, h1, h2⟩ := strsAre_app h
      exact ⟨_, b, rfl, .cons c t h1, h2⟩
theorem relStrs {xs ys : List Value} {new : List (Addr × Obj)} {f : Str → Str} (h : RelAll (fun v y nw => nw = [] ∧ ∀ r t, v = Value.str r t → ∃ u, y = .str (f r) u) xs ys new) : ∀ {ms : List Str}, StrsAre xs ms → new = [] ∧ StrsAre ys (ms.map f) := by
  induction h with
  | nil => intro ms hm; cases hm; exact ⟨rfl, .nil⟩
  | snoc h1 h2 ih =>
    intro ms hm
    obtain ⟨ms1, ms2, rfl, a, b⟩ := strsAre_app hm
    cases b with
    | cons c' t' b =>
      cases b
      obtain ⟨e1, e2⟩ := ih a
      obtain ⟨u, rfl⟩ := h2.2 _ _ rfl
      exact ⟨by rw [e1, h2.1]; rfl, by rw [List.map_append]; exact e2.append' (.cons _ _ .nil)⟩
set_option maxHeartbeats 3000000 in
theorem turnB {h₀ : Heap} {L a G I R : Addr} {cd : Value} {oC oI og : Obj} {m : Str → Option Value} {k : Int} {tk0 : Tok} {nr : Nat} {rs : List Value} {rows : List Str} {Q : Flow → Shared → Prop} (y : YP w h₀) (hr : Room A 6) (F : Fr h₀ L s.heap m) (N : News h₀ L s.heap [(G, og), (L + 1, oC), (I, oI), (R, listOf rs.toArray nr)])
    (hcell : oC.data = .cell (some (.int k tk0))) (hk1 : 1 ≤ k) (hk2 : k < 4) (hg : m (Str.ofString "given") = some (.ref G)) (hrw : m (Str.ofString "rows") = some (.ref R)) (hrows : StrsAre rs rows) (hlen : rows.length ≤ 1000) (hsz : ∀ r ∈ rows, r.length ≤ 10000) (oX : Okx (sentOf k rows)) (hj : JoinOk (Str.ofString "\r\n") (rows.map (dotRow k)) = true)
    (kk : ∀ t m' h' tk, m' (Str.ofString "given") = some (.ref G) → m' (Str.ofString "rows") = some (.ref R) → m' (Str.ofString "due") = some (.bytes (gv (sentOf k rows)) t) → Fr h₀ L h' m' → News h₀ L h' [(G, og), (L + 1, oC), (I, oI), (R, listOf rs.toArray nr)] → wpAny (model pw w) A (execs (hb29.drop 2) (EL L a cd)) Q (fun _ _ => False) { s with heap := h', toks := tk }) :
    wpAny (model pw w) A (execs (hb29.drop 1) (EL L a cd)) Q (fun _ _ => False) s := by
  walk_at "STMT"
  rotate_left
  · exfalso
    (first | lia | omega)
  walk_at "STMT"
  refine compF (cl := [(Str.ofString "hand", L + 1)]) (h₀ := h₀) (fun v y nw => nw = [] ∧ ∀ r t, v = .str r t → ∃ u, y = .str (dotRow k r) u) hr.handled (by with_unfolding_all rfl) (by decide) rfl (by decide) ?_
  walk_at "MINEL"
  refine ⟨⟨R, rs, nr, m, _, rfl, F, N, by k_mem, by rw [hrows.length]; (first | lia | omega), ?_, ?_⟩⟩
  · intro i v C m' hh tk led hx F2 N2 hsub
    obtain ⟨r, t, rfl, hri⟩ := strs_get hrows hx
    have hrl := hsz r (List.mem_of_getElem? hri)
    have hC : (L + 1, oC) ∈ led := hsub _ (by k_mem)
    clear F N
    have hml : (Txt.mul (Str.ofString ".") k).length ≤ 1000 := by
      have h3 : k = 1 ∨ k = 2 ∨ k = 3 := by (first | lia | omega)
      rcases h3 with rfl | rfl | rfl <;> decide
    walk_at "MINEL"
    · refine CompE.plain (by assumption) (by assumption) ⟨rfl, fun r' t' e => ?_⟩
      cases e
      exact ⟨_, by unfold dotRow; rw [if_pos (by assumption)]⟩
    · refine CompE.plain (by assumption) (by assumption) ⟨rfl, fun r' t' e => ?_⟩
      cases e
      exact ⟨_, by unfold dotRow; rw [if_neg (ne_true_of_eq_false (by assumption))]⟩
  · intro D ys new hp tk n2 hrel F2 N2 hdis
    obtain ⟨hnew, hstr⟩ := relStrs hrel hrows
    subst hnew
    clear F N
    walk_at "ONE"
    refine joinU (News.isList N2 (.head _)) hstr hj (fun t' k' => ?_)
    walk_at "STMT"
    walk_at "STMT"
    rename Fr _ _ _ _ => F5
    rename News _ _ _ _ => N5
    walk_at "ONE"
    refine kk ?t _ _ _ ?g ?r ?d F5 (fun p hp => N5 p (.tail _ hp))
    case d => rfl
    case g =>
      show (if _ then _ else if _ then _ else m _) = _
      rw [if_neg (by decide), if_neg (by decide)]; exact hg
    case r =>
      show (if _ then _ else if _ then _ else m _) = _
      rw [if_neg (by decide), if_neg (by decide)]; exact hrw
theorem rules_WkP_4 : True := by
  k_with "subscriptTail" => (refine kim_list (by assumption) (List.Mem.head _) rfl rfl (by assumption) (by assumption) (by assumption) ?_)
  trivial
set_option maxHeartbeats 3000000 in
theorem turnD {h₀ : Heap} {L a G : Addr} {cd : Value} {oC : Obj} {m : Str → Option Value} {k : Int} {tk0 t1 t2 : Tok} {n : Nat} {gs : List Value} {X : Array UInt8} {rest : List (Addr × Obj)} {Q : Flow → Shared → Prop} (y : YP w h₀) (hr : Room A 6) (F : Fr h₀ L s.heap m) (N : News h₀ L s.heap ((G, listOf gs.toArray n) :: (L + 1, oC) :: rest))
    (hcell : oC.data = .cell (some (.int k tk0))) (hk1 : 0 ≤ k) (hk2 : k < 2 ^ 63) (hx : gs[k.toNat]? = some (.bytes X t1)) (hg : m (Str.ofString "given") = some (.ref G)) (hd : m (Str.ofString "due") = some (.bytes X t2))
    (kk : ∀ h' tk, Fr h₀ L h' m → News h₀ L h' ((G, listOf gs.toArray n) :: (L + 1, oC) :: rest) → Q .next { s with heap := h', toks := tk }) :
    wpAny (model pw w) A (execs (hb29.drop 2) (EL L a cd)) Q (fun _ _ => False) s := by
  walk_at "STMT"
  · exfalso
    rename (X.toList != X.toList) = true => hb
    simp at hb
  · rename Fr _ _ _ _ => F5
    rename News _ _ _ _ => N5
    walk_at "ONE"
    dsimp only
    refine wpAny_execs_nil ?_
    exact kk _ _ F5 N5
end
end Mine
end P_WkP
section P_PL4
open PySem PySem.W PySem.Calls PyProof.Rows
set_option linter.unusedVariables false
set_option maxRecDepth 100000
namespace Mine
noncomputable def joinL : List (List Nat) → List Nat
  | [] => []
  | [x] => x
  | x :: y :: r => x ++ 13 :: 10 :: joinL (y :: r)
theorem joinL_cons {x : List Nat} {r : List (List Nat)} (h : r ≠ []) : joinL (x :: r) = x ++ 13 :: 10 :: joinL r := by
  cases r with
  | nil => exact absurd rfl h
  | cons y r => rfl
theorem crlf_list : (Str.ofString "\r\n").cps.toList = [13, 10] := by decide
theorem join_crlf : ∀ ys : List Str, (Txt.join (Str.ofString "\r\n") ys).cps.toList = joinL (ys.map fun y => y.cps.toList) := by
  intro ys
  show (Builtin.Str.glued _ ys).cps.toList = _
  rw [StrLaws.glued_eq_join]
  induction ys with
  | nil => rfl
  | cons x r ih =>
    cases r with
    | nil => rfl
    | cons y r =>
      show (x ++ Str.ofString "\r\n" ++ Str.join (Str.ofString "\r\n") (y :: r) : Str).cps.toList = _
      rw [str_app, str_app, ih, crlf_list, List.append_assoc]
      rfl
/-- rows, as the law's own text reads them -/
noncomputable def JL (rows : List (List Nat)) (cur : List Nat) : List Nat := (rows.flatMap fun r => r ++ [13, 10]) ++ cur
theorem joinL_snoc (rows : List (List Nat)) (cur : List Nat) : joinL (rows ++ [cur]) = JL rows cur := by
  induction rows with
  | nil => rfl
  | cons x r ih =>
    rw [List.cons_append, joinL_cons (by simp), ih]
    unfold JL
    rw [List.flatMap_cons]
    simp
noncomputable def NN (r : List Nat) : Prop := ∀ c ∈ r, c ≠ 10 ∧ c ≠ 13
theorem str1_eq (n k : Nat) {q : Str} (hq : q = ⟨#[k]⟩) : (((⟨#[n]⟩ : Str) == q) = true) ↔ n = k := by
  subst hq
  rw [beq_iff_eq]
  constructor
  · intro h; injection h with h; injection h with h; injection h with h _
  · rintro rfl; rfl
theorem cr_str : Str.ofString "\r" = ⟨#[13]⟩ := by decide
theorem lf_str : Str.ofString "\n" = ⟨#[10]⟩ := by decide
noncomputable def tl (s : Str) : List Nat := s.cps.toList
theorem rows_run : ∀ (l : List Nat) (p : RowQ), JL ((l.map fun (c : Nat) => (c : Int)).foldl rowStep p |>.1.map tl) (tl ((l.map fun (c : Nat) => (c : Int)).foldl rowStep p).2.1) = JL (p.1.map tl) (tl p.2.1) ++ crl (p.2.2 == Str.ofString "\r") l
  | [], p => by simp [crl]
  | c :: l, (rows, cur, last) => by
    rw [List.map_cons, List.foldl_cons, rows_run l]
    have e : ((c : Int)).toNat = c := Int.toNat_natCast c
    unfold rowStep
    rw [e]
    dsimp only
    by_cases h13 : c = 13
    · rw [if_pos ((str1_eq c 13 cr_str).mpr h13)]
      have h2 : ((⟨#[c]⟩ : Str) == Str.ofString "\r") = true := (str1_eq c 13 cr_str).mpr h13
      dsimp only
      rw [h2]
      show JL ((rows ++ [cur]).map tl) [] ++ crl true l = JL (rows.map tl) (tl cur) ++ (if c = 13 then 13 :: 10 :: crl true l else _)
      rw [if_pos h13]
      unfold JL
      simp
    · have n13 : ¬ ((⟨#[c]⟩ : Str) == Str.ofString "\r") = true := fun h => h13 ((str1_eq c 13 cr_str).mp h)
      have f13 : ((⟨#[c]⟩ : Str) == Str.ofString "\r") = false := by simpa using n13
      rw [if_neg n13]
      by_cases h10 : c = 10
      · rw [if_pos ((str1_eq c 10 lf_str).mpr h10)]
        by_cases hl : (last == Str.ofString "\r") = true
        · have hl2 : ¬ (last != Str.ofString "\r") = true := by simp [bne, hl]
          rw [if_neg hl2]
          dsimp only
          rw [f13, hl]
          show _ = _ ++ (if c = 13 then _ else if c = 10 then (if true = true then crl false l else _) else _)
          rw [if_neg h13, if_pos h10, if_pos rfl]
        · have hl3 : (last == Str.ofString "\r") = false := by simpa using hl
          have hl2 : (last != Str.ofString "\r") = true := by simp [bne, hl3]
          rw [if_pos hl2]
          dsimp only
          rw [f13, hl3]
          show JL ((rows ++ [cur]).map tl) [] ++ _ = _ ++ (if c = 13 then _ else if c = 10 then (if false = true then _ else 13 :: 10 :: crl false l) else _)
          rw [if_neg h13, if_pos h10, if_neg (by decide)]
          unfold JL
          simp
      · rw [if_neg (fun h => h10 ((str1_eq c 10 lf_str).mp h))]
        dsimp only
        rw [f13]
        show JL (rows.map tl) (tl (cur ++ ⟨#[c]⟩)) ++ _ = _ ++ (if c = 13 then _ else if c = 10 then _ else c :: crl false l)
        rw [if_neg h13, if_neg h10]
        have : tl (cur ++ ⟨#[c]⟩) = tl cur ++ [c] := str_app _ _
        rw [this]
        unfold JL
        simp
structure RowsOk (Pc : Nat → Prop) (p : RowQ) : Prop where
  nn : ∀ r ∈ p.1, NN (tl r)
  nc : NN (tl p.2.1)
  pn : ∀ r ∈ p.1, ∀ c ∈ tl r, Pc c
  pc : ∀ c ∈ tl p.2.1, Pc c
theorem rows_ok (Pc : Nat → Prop) : ∀ (l : List Nat) (p : RowQ), (∀ c ∈ l, Pc c) → RowsOk Pc p → RowsOk Pc ((l.map fun (c : Nat) => (c : Int)).foldl rowStep p) ∧ ((l.map fun (c : Nat) => (c : Int)).foldl rowStep p).1.length ≤ p.1.length + l.length
  | [], p, _, h => ⟨h, by simp⟩
  | c :: l, (rows, cur, last), hl, h => by
    rw [List.map_cons, List.foldl_cons]
    have e : ((c : Int)).toNat = c := Int.toNat_natCast c
    have hl' : ∀ x ∈ l, Pc x := fun x hx => hl x (.tail _ hx)
    have step : RowsOk Pc (rowStep (rows, cur, last) c) ∧ (rowStep (rows, cur, last) c).1.length ≤ rows.length + 1 := by
      have hnew : RowsOk Pc (rows ++ [cur], "", (⟨#[c]⟩ : Str)) := by
        refine ⟨fun r hr => ?_, fun x hx => (nomatch hx), fun r hr => ?_, fun x hx => (nomatch hx)⟩
        · rcases List.mem_append.mp hr with hr | hr
          · exact h.nn r hr
          · rw [List.mem_singleton.mp hr]; exact h.nc
        · rcases List.mem_append.mp hr with hr | hr
          · exact h.pn r hr
          · rw [List.mem_singleton.mp hr]; exact h.pc
      unfold rowStep
      rw [e]
      dsimp only
      split
      · exact ⟨hnew, by simp⟩
      · rename_i n13
        split
        · split
          · exact ⟨hnew, by simp⟩
          · exact ⟨⟨h.nn, h.nc, h.pn, h.pc⟩, by simp⟩
        · rename_i n10
          have h13 : c ≠ 13 := fun hc => n13 ((str1_eq c 13 cr_str).mpr hc)
          have h10 : c ≠ 10 := fun hc => n10 ((str1_eq c 10 lf_str).mpr hc)
          have et : tl (cur ++ ⟨#[c]⟩) = tl cur ++ [c] := str_app _ _
          refine ⟨⟨h.nn, ?_, h.pn, ?_⟩, by simp⟩
          · intro x hx
            rw [et] at hx
            rcases List.mem_append.mp hx with hx | hx
            · exact h.nc x hx
            · rw [List.mem_singleton.mp hx]; exact ⟨h10, h13⟩
          · intro x hx
            rw [et] at hx
            rcases List.mem_append.mp hx with hx | hx
            · exact h.pc x hx
            · rw [List.mem_singleton.mp hx]; exact hl c (.head _)
    obtain ⟨a, b⟩ := rows_ok Pc l _ hl' step.1
    exact ⟨a, by have := step.2; simp only [List.length_cons]; (first | lia | omega)⟩
theorem codes_eq (x : Str) : KStt.codes x = x.cps.toList.map fun (c : Nat) => (c : Int) := rfl
theorem rows_join (x : Str) : joinL ((rowsOf x).map tl) = crl false (tl x) := by
  unfold rowsOf rowRun
  rw [List.map_append, List.map_cons, List.map_nil, joinL_snoc, codes_eq]
  have := rows_run x.cps.toList ([], "", "")
  rw [this]
  rfl
theorem rows_all (Pc : Nat → Prop) (x : Str) (h : ∀ c ∈ tl x, Pc c) : (∀ r ∈ rowsOf x, NN (tl r) ∧ ∀ c ∈ tl r, Pc c) ∧ (rowsOf x).length ≤ x.cps.size + 1 := by
  obtain ⟨a, b⟩ := rows_ok Pc x.cps.toList ([], "", "") h ⟨(fun _ h => nomatch h), (fun _ h => nomatch h), (fun _ h => nomatch h), (fun _ h => nomatch h)⟩
  unfold rowsOf rowRun
  rw [codes_eq]
  refine ⟨fun r hr => ?_, ?_⟩
  · rcases List.mem_append.mp hr with hr | hr
    · exact ⟨a.nn r hr, a.pn r hr⟩
    · rw [List.mem_singleton.mp hr]; exact ⟨a.nc, a.pc⟩
  · rw [List.length_append, List.length_singleton]
    simp only [List.length_nil, Nat.zero_add, Array.length_toList] at b
    (first | lia | omega)
/-- dots -/
noncomputable def dk (k : Nat) (r : List Nat) : List Nat := if r.head? = some 46 then List.replicate k 46 ++ r else r
theorem dk_NN {k : Nat} {r : List Nat} (h : NN r) : NN (dk k r) := by
  unfold dk
  split
  · intro c hc
    rcases List.mem_append.mp hc with hc | hc
    · rw [(List.mem_replicate.mp hc).2]; decide
    · exact h c hc
  · exact h
theorem dk_dk (k : Nat) (r : List Nat) : dk 1 (dk k r) = dk (k + 1) r := by
  unfold dk
  by_cases h : r.head? = some 46
  · rw [if_pos h, if_pos h, if_pos]
    · rw [← List.append_assoc]; rfl
    · cases k with
      | zero => simpa using h
      | succ k => rfl
  · rw [if_neg h, if_neg h, if_neg h]
theorem crl_NN {r l : List Nat} (h : NN r) : crl false (r ++ l) = r ++ crl false l := by
  induction r with
  | nil => rfl
  | cons c r ih =>
    have hc := h c (.head _)
    rw [List.cons_append, crl_no, ih fun x hx => h x (.tail _ hx)]
    · rfl
    · cases e : nl c with
      | false => rfl
      | true => rcases nl_iff.mp e with e | e
                · exact absurd e hc.1
                · exact absurd e hc.2
theorem crl_joinL : ∀ {rs : List (List Nat)}, (∀ r ∈ rs, NN r) → crl false (joinL rs) = joinL rs
  | [], _ => rfl
  | [x], h => by
    have := crl_NN (l := []) (h x (.head _))
    rw [List.append_nil] at this
    show crl false x = x
    rw [this]; exact List.append_nil _
  | x :: y :: r, h => by
    show crl false (x ++ 13 :: 10 :: joinL (y :: r)) = x ++ 13 :: 10 :: joinL (y :: r)
    rw [crl_NN (h x (.head _))]
    have e : crl false (13 :: 10 :: joinL (y :: r)) = 13 :: 10 :: crl false (joinL (y :: r)) := rfl
    rw [e, crl_joinL fun z hz => h z (.tail _ hz)]
theorem dl_false {r l : List Nat} (h : NN r) : dl false (r ++ 13 :: l) = r ++ 13 :: dl false l ∧ dl false r = r := by
  induction r with
  | nil => exact ⟨rfl, rfl⟩
  | cons c r ih =>
    have hc := h c (.head _)
    obtain ⟨i1, i2⟩ := ih fun x hx => h x (.tail _ hx)
    have e : (c == 10) = false := beq_eq_false_iff_ne.mpr hc.1
    constructor
    · show (if false = true ∧ c = 46 then _ else c :: dl (c == 10) (r ++ 13 :: l)) = _
      rw [if_neg (fun h => absurd h.1 (by decide)), e, i1]; rfl
    · show (if false = true ∧ c = 46 then _ else c :: dl (c == 10) r) = _
      rw [if_neg (fun h => absurd h.1 (by decide)), e, i2]
theorem dl_row {r l : List Nat} (h : NN r) : dl true (r ++ 13 :: 10 :: l) = dk 1 r ++ 13 :: 10 :: dl true l ∧ dl true r = dk 1 r := by
  have tail13 : ∀ b, dl b (13 :: 10 :: l) = 13 :: 10 :: dl true l := by
    intro b
    cases b <;> rfl
  cases r with
  | nil => exact ⟨tail13 true, rfl⟩
  | cons c r =>
    have hc := h c (.head _)
    have hr : NN r := fun x hx => h x (.tail _ hx)
    obtain ⟨i1, i2⟩ := dl_false (l := 10 :: l) hr
    have e : (c == 10) = false := beq_eq_false_iff_ne.mpr hc.1
    have e13 : dl false (10 :: l) = 10 :: dl true l := rfl
    by_cases h46 : c = 46
    · subst h46
      constructor
      · show 46 :: 46 :: dl false (r ++ 13 :: 10 :: l) = _
        rw [i1, e13]; rfl
      · show 46 :: 46 :: dl false r = _
        rw [i2]; rfl
    · have hd : dk 1 (c :: r) = c :: r := by
        unfold dk
        rw [if_neg]
        intro hh; simp at hh; exact h46 hh
      rw [hd]
      constructor
      · show (if true = true ∧ c = 46 then _ else c :: dl (c == 10) (r ++ 13 :: 10 :: l)) = _
        rw [if_neg (fun h => h46 h.2), e, i1, e13]; rfl
      · show (if true = true ∧ c = 46 then _ else c :: dl (c == 10) r) = _
        rw [if_neg (fun h => h46 h.2), e, i2]
theorem dl_joinL : ∀ {rs : List (List Nat)}, (∀ r ∈ rs, NN r) → dl true (joinL rs) = joinL (rs.map (dk 1))
  | [], _ => rfl
  | [x], h => (dl_row (l := []) (h x (.head _))).2
  | x :: y :: r, h => by
    show dl true (x ++ 13 :: 10 :: joinL (y :: r)) = dk 1 x ++ 13 :: 10 :: joinL ((y :: r).map (dk 1))
    rw [(dl_row (h x (.head _))).1, dl_joinL fun z hz => h z (.tail _ hz)]
end Mine
end P_PL4
section P_WkQ
open PySem PySem.W PySem.Calls PyProof.Rows
set_option linter.unusedVariables false
set_option maxRecDepth 100000
namespace Mine
/-- what a turn of a for loop over a list of the ledger leaves -/
inductive LNext (h₀ : Heap) (L I ls : Addr) (oI lo : Obj) (J : (Str → Option Value) → List (Addr × Obj) → Prop) (s₂ : Shared) (s₃ : Shared) : Prop
  | mk (hp' : Heap) (tk' : Nat) (m₂ : Str → Option Value) (news₂ : List (Addr × Obj)) : s₃ = { s₂ with heap := hp', toks := tk' } →
      Fr h₀ L hp' m₂ →
      News h₀ L hp' ((I, oI) :: news₂) →
      (∀ p ∈ news₂, p.1 ≠ I) →
      (ls, lo) ∈ news₂ →
      J m₂ news₂ → LNext h₀ L I ls oI lo J s₂ s₃
noncomputable def LEnd (h₀ : Heap) (L I ls : Addr) (oI lo : Obj) (J : (Str → Option Value) → List (Addr × Obj) → Prop) (s₂ : Shared) (Q : Flow → Shared → Prop) (f : Flow) (s₃ : Shared) : Prop :=
  match f with
  | .ret v => Q (.ret v) s₃
  | .brk => Q .next s₃
  | _ => LNext h₀ L I ls oI lo J s₂ s₃
inductive LLoopi (w : World) (A : Around) (h₀ : Heap) (env : Env) (x : Str) (body : List Stmt) (J : Nat → (Str → Option Value) → List (Addr × Obj) → Prop) (Q : Flow → Shared → Prop) (xv : Value) (s₂ : Shared) : Prop
  | mk (ls : Addr) (xs : List Value) (k : Nat) (m : Str → Option Value) (news : List (Addr × Obj)) : xv = .ref ls →
      Fr h₀ env.locals s₂.heap m →
      News h₀ env.locals s₂.heap news →
      (ls, listOf xs.toArray k) ∈ news →
      J 0 m news →
      (∀ (i : Nat) (v : Value) (m₁ : Str → Option Value) (news₁ : List (Addr × Obj)) (I : Addr) (oI : Obj) (hp : Heap) (tk : Nat), xs[i]? = some v → J i m₁ news₁ → (ls, listOf xs.toArray k) ∈ news₁ → (∀ p ∈ news₁, p.1 ≠ I) → Fr h₀ env.locals hp (fun y => if y = x then some v else m₁ y) → News h₀ env.locals hp ((I, oI) :: news₁) →
      wpAny (model pw w) A (execs body env) (LEnd h₀ env.locals I ls oI (listOf xs.toArray k) (J (i + 1)) s₂ Q) (fun _ _ => False) { s₂ with heap := hp, toks := tk }) →
      (∀ m' news' hp tk, J xs.length m' news' → Fr h₀ env.locals hp m' → News h₀ env.locals hp news' → Q .next { s₂ with heap := hp, toks := tk }) → LLoopi w A h₀ env x body J Q xv s₂
structure LLoop (w : World) (A : Around) (h₀ : Heap) (env : Env) (x : Str) (body : List Stmt) (J : Nat → (Str → Option Value) → List (Addr × Obj) → Prop) (Q : Flow → Shared → Prop) (xv : Value) (s₂ : Shared) : Prop where
  out : LLoopi w A h₀ env x body J Q xv s₂
inductive LSt (h₀ : Heap) (L I ls : Addr) (xs : List Value) (kk : Nat) (J : Nat → (Str → Option Value) → List (Addr × Obj) → Prop) (s₂ : Shared) (k : Nat) (s' : Shared) : Prop
  | mk (hp : Heap) (tk : Nat) (m' : Str → Option Value) (news' : List (Addr × Obj)) (i : Nat) : s' = { s₂ with heap := hp, toks := tk } →
      (hp.IsListIter I ls i ∧ hp.IsList ls xs.toArray) →
      Fr h₀ L hp m' →
      News h₀ L hp news' →
      (∀ p ∈ news', p.1 ≠ I) →
      (ls, listOf xs.toArray kk) ∈ news' →
      J i m' news' →
      i ≤ xs.toArray.size →
      k = xs.toArray.size + 1 - i → LSt h₀ L I ls xs kk J s₂ k s'
section
variable {w : World} {A : Around} {s : Shared}
theorem for_lst {env : Env} {h₀ : Heap} {x : Str} {px pos : Pos} {iter : Expr} {body : List Stmt} {Q : Flow → Shared → Prop} (J : Nat → (Str → Option Value) → List (Addr × Obj) → Prop) (hh : A.handled = none)
    (hx : env.kindOf x = some .local) (hpl : (env.scope.kind == .class || (env.scope.kind == .module && env.locals != env.globals)) = false)
    (h : wpAny (model pw w) A (eval iter env) (fun xv s₂ => LLoop w A h₀ env x body J Q xv s₂) (fun _ _ => False) s)
    (hs : ∀ x, foldedSetIterable iter env x = pure x := by intro _; rfl) :
    wpAny (model pw w) A (exec (.For (.Name x px) iter body [] pos) env) Q (fun _ _ => False) s := by
  refine wpAny_For (wpAny_mono h (fun xv s₂ h₂ => ?_) fun _ _ e => e) hs
  obtain ⟨ls, xs, kk, m, news, rfl, F, N, hls, h0, step, done⟩ := h₂.out
  have hlsN := N _ hls
  have hl : s₂.heap.IsList ls xs.toArray := ⟨_, hlsN.1, rfl, _, rfl⟩
  refine wpAny_pyIter_list hl ?_
  have hLlt : env.locals < s₂.heap.objs.size := F.ns.lt
  have hIL : s₂.heap.objs.size ≠ env.locals := fun e => Nat.lt_irrefl _ (e ▸ hLlt)
  have hI0 : h₀.get? s₂.heap.objs.size = none := by
    cases e : h₀.get? s₂.heap.objs.size with
    | none => rfl
    | some o' => exact absurd (Heap.lt_size (F.keep _ _ e)) (Nat.lt_irrefl _)
  have hlI : ls ≠ s₂.heap.objs.size := fun e => Nat.lt_irrefl _ (e ▸ Heap.lt_size hlsN.1)
  have hnI : ∀ p ∈ news, p.1 ≠ s₂.heap.objs.size := fun p hp e => Nat.lt_irrefl _ (e ▸ Heap.lt_size (N p hp).1)
  have W : Walks pw w A s₂.heap.objs.size [s₂.heap.objs.size, ls] [s₂.heap.objs.size] xs.toArray.size (fun i v => xs.toArray[i]? = some v) (fun i h => h.IsListIter s₂.heap.objs.size ls i ∧ h.IsList ls xs.toArray) := Walks.list hh _ _ hlI _
  generalize hI : s₂.heap.objs.size = I at *
  have gI : (s₂.heap.push { cls := .type "list_iterator", data := .fields #[.ref ls, .int 0 0] }).get? I = some { cls := .type "list_iterator", data := .fields #[.ref ls, .int 0 0] } := by
    rw [← hI]; exact Heap.get?_push_size _ rfl
  refine codeAny_forLoop
    (LSt h₀ env.locals I ls xs kk J s₂) ?_ (xs.toArray.size + 1)
    ⟨_, s₂.toks, m, news, 0, rfl, ⟨⟨_, gI, rfl, rfl⟩, ?_⟩, F.push _, fun p hp => ⟨Heap.get?_push_of_some _ (N p hp).1, (N p hp).2⟩, hnI, hls, h0, Nat.zero_le _, rfl⟩
  rotate_left
  · exact ⟨_, Heap.get?_push_of_some _ hlsN.1, rfl, _, rfl⟩
  rintro k s' ⟨hp, tk, m', news', i, rfl, hst', F', N', hap', hls', hJ, hi, rfl⟩
  have next : ∀ h₁ : Heap, (∀ b o, b ∉ [I] → hp.get? b = some o → h₁.get? b = some o) → Fr h₀ env.locals h₁ m' ∧ News h₀ env.locals h₁ news' := fun h₁ hk₁ => by
    have nI : ∀ b, b ≠ I → b ∉ [I] := fun b hb hm => hb (List.mem_singleton.mp hm)
    refine ⟨⟨F'.ns.at' fun o e => hk₁ _ o (nI _ (Ne.symm hIL)) e, fun b o e => hk₁ b o (nI _ fun e' => ?_) (F'.keep b o e), F'.above⟩, fun p hp => ⟨hk₁ _ _ (nI _ (hap' p hp)) (N' p hp).1, (N' p hp).2⟩⟩
    rw [e', hI0] at e; cases e
  by_cases hlt : i < xs.toArray.size
  · refine W.item i _ _ _ hlt hst' fun v h₁ tk₁ hP hst₁ hk₁ => ?_
    obtain ⟨F₁, N₁⟩ := next h₁ hk₁
    obtain ⟨⟨oI, goI, cI, dI⟩, hl₁⟩ := id hst₁
    refine wpAny_assign_Name (wpAny_storeName_local hx F₁.ns (fun h₂ hn₂ hs₂ => ?_) hpl)
    have F₂ := F₁.set hn₂ hs₂
    have N₂ := N₁.set hs₂
    have gI2 : h₂.get? I = some oI := (hs₂.2 I hIL).trans goI
    refine wpAny_mono (step i v m' news' I oI h₂ _ (by simpa using hP) hJ hls' hap' F₂ (fun p hp => ?_)) (fun f s₃ h₃ => ?_) fun _ _ e => e.elim
    · rcases List.mem_cons.mp hp with rfl | hp
      · exact ⟨gI2, hIL, hI0⟩
      · exact N₂ _ hp
    · have fin : LNext h₀ env.locals I ls oI (listOf xs.toArray kk) (J (i + 1)) s₂ s₃ → ∃ m, m < xs.toArray.size + 1 - i ∧ LSt h₀ env.locals I ls xs kk J s₂ m s₃ := by
        rintro ⟨hp₃, tk₃, m₃, news₃, rfl, F₃, N₃, hap₃, hls₃, hJ₃⟩
        refine ⟨xs.toArray.size + 1 - (i + 1), by (first | lia | omega), hp₃, tk₃, m₃, news₃, i + 1, rfl, ⟨⟨oI, (N₃ _ (.head _)).1, cI, dI⟩, ⟨_, (N₃ _ (.tail _ hls₃)).1, rfl, _, rfl⟩⟩, F₃, fun p hp => N₃ _ (.tail _ hp), hap₃, hls₃, hJ₃, hlt, rfl⟩
      cases f with
      | ret v => exact h₃
      | brk => exact h₃
      | next => exact fin h₃
      | cont => exact fin h₃
  · have hin : i = xs.toArray.size := by (first | lia | omega)
    subst hin
    refine W.done _ _ _ hst' fun h₁ tk₁ hk₁ => wpAny_execs_nil ?_
    obtain ⟨F₁, N₁⟩ := next h₁ hk₁
    exact done m' news' h₁ tk₁ (by simpa using hJ) F₁ N₁
end
end Mine
end P_WkQ
section P_WkR
open PySem PySem.W PySem.Calls PyProof.Rows
set_option linter.unusedVariables false
set_option maxRecDepth 100000
namespace Mine
theorem rules_WkR_1 : True := by
  k_with_none
  k_with "call type:type" => ((with_reducible refine' call_type_of (Tx := "bytes") (typeIs_bytes _ _ _) ?hnb ?_); (case hnb => decide))
  k_with "And" => ((with_reducible show YP _ _ ∧ wpAny _ _ (call (Value.ref _) _ _) _ _ _); refine' And.intro ?gA ?_; (case gA => exact YP.fr (by assumption) (by assumption)))
  k_with "getMethod ref" => (refine' listMethod_K ?gN ?gm PySem.F.slot_list_append PySem.F.type_list_append ?_; (case gN => assumption); (case gm => k_mem))
  k_with "call builtin:list.append" => ((refine' append_K ?gF ?gN ?gU ?_ ?gz; (case gF => assumption); (case gN => assumption); (case gU => k_upd); (case gz => first | assumption | (simp only [Array.size_push, List.size_toArray, List.length_append, List.length_cons, List.length_nil, sizeLine_eq] at *; (first | lia | omega)) | size_fits)); intro _ _ _)
  k_with "call ref" => ((first
  | (with_reducible refine' useI ?gF ?gN (c_b64_value ?gy ?gr) ?_)
  | (with_reducible refine' useB ?gF ?gN (c_ascii_buffer ?gy ?gr) ?_)
  | (with_reducible refine' useB ?gF ?gN (c_buffer ?gy ?gr) ?_)
  | (with_reducible refine' useT ?gF ?gN (c_truth ?gy ?gr) ?_)); (case gF => assumption); (case gN => assumption); (case gy => exact YP.fr (by assumption) (by assumption)); (case gr => exact Room.le (by assumption) (by decide)); intros)
  k_with "eval Name" => (first | ((first | (with_reducible refine' lX ?gF ?gv ?_ ?gk ?gl ?gd) | (with_reducible refine' lC ?gF ?gv ?_ ?gk ?gl ?gd)); (case gF => assumption); (case gl => with_unfolding_all exact rfl); (case gv => first | (with_reducible assumption) | (with_unfolding_all exact rfl)); (case gk => with_unfolding_all exact rfl); (case gd => with_unfolding_all exact rfl)) | ((with_reducible refine' lX ?gF ?gv ?_ ?gk ?gl ?gd); (case gF => assumption); (case gl => with_unfolding_all exact rfl); (case gv => first | (with_reducible assumption) | (with_unfolding_all exact rfl)); (case gk => with_unfolding_all exact rfl); (case gd => with_unfolding_all exact rfl)) | ((first | (with_reducible refine' gX ?gF ?gy (g_law_piece _) ?_ ?gk ?gx ?gg ?gd) | (with_reducible refine' gX ?gF ?gy (g_law_rows _) ?_ ?gk ?gx ?gg ?gd) | (with_reducible refine' gX ?gF ?gy (g_law_in_fours _) ?_ ?gk ?gx ?gg ?gd) | (with_reducible refine' gX ?gF ?gy (g_law_prepares _) ?_ ?gk ?gx ?gg ?gd) | (with_reducible refine' gX ?gF ?gy (g_law_sends _) ?_ ?gk ?gx ?gg ?gd) | (with_reducible refine' gX ?gF ?gy (g_Authenticator _) ?_ ?gk ?gx ?gg ?gd)); (case gF => assumption); (case gy => assumption); (case gk => with_unfolding_all exact rfl); (case gx => with_unfolding_all exact rfl); (case gg => with_unfolding_all exact rfl); (case gd => with_unfolding_all exact rfl)) | ((first | (with_reducible refine' bX ?gF ?gy (n_range _) (b_range _) ?_ ?gk ?gx ?gg ?gb ?gd) | (with_reducible refine' bX ?gF ?gy (n_len _) (b_len _) ?_ ?gk ?gx ?gg ?gb ?gd)); (case gF => assumption); (case gy => assumption); (case gk => with_unfolding_all exact rfl); (case gx => with_unfolding_all exact rfl); (case gg => with_unfolding_all exact rfl); (case gb => with_unfolding_all exact rfl); (case gd => with_unfolding_all exact rfl)))
  k_with "storeName" => ((first | (with_reducible refine' sX ?gF ?gN ?_ ?gk ?gx) | (with_reducible refine' sC ?gF ?gN ?_ ?gk ?gx)); (case gF => assumption); (case gN => assumption); (case gk => with_unfolding_all exact rfl); (case gx => with_unfolding_all exact rfl); intro _ _ _)
  k_with "NMV" => first | (with_reducible assumption) | (with_reducible exact if_pos rfl) | ((refine Eq.trans (if_neg (by decide)) ?_); walk_at "NMV") | (with_unfolding_all exact rfl)
  k_with "MINEL" => repeat' ((fail_if_success (with_reducible show wpAny _ _ (eval (Expr.ListComp _ _ _ _) _) _ _ _)); (fail_if_success (with_reducible show InvEndN _ _ _ _ _ _ _)); (fail_if_success (with_reducible show WNext _ _ _ _ _ _ _ _ _ _ _)); (fail_if_success (with_reducible show wpAny _ _ (exec (Stmt.While _ _ _ _) _) _ _ _)); (fail_if_success (with_reducible show wpAny _ _ (exec (Stmt.For _ _ _ _ _) _) _ _ _)); walk1)
  k_with "ONE" => walk1
  k_with "callWith ref" => (first | (refine callWith_y ⟨_, _, (by with_unfolding_all exact rfl), (by with_unfolding_all exact rfl)⟩ ?_) | (refine callWith_m (f := 116) (YP.fr (by assumption) (by assumption)) (fun P => (k_keep P).1) ?_) | (refine callWith_c (YP.fr (by assumption) (by assumption)) ?_))
  k_with "STMT" => (walk1; repeat' ((fail_if_success (with_reducible show wpAny _ _ (execs _ _) _ _ _)); (fail_if_success (with_reducible show wpAny _ _ (eval (Expr.ListComp _ _ _ _) _) _ _ _)); (fail_if_success (with_reducible show wpAny _ _ (exec (Stmt.While _ _ _ _) _) _ _ _)); (fail_if_success (with_reducible show wpAny _ _ (exec (Stmt.For _ _ _ _ _) _) _ _ _)); walk1))
  k_with "eval Name" => (first | ((first | (with_reducible refine' gX_law_rows ?gF ?gy ?_ ?gk ?gx ?gg ?gd) | (with_reducible refine' gX_law_in_fours ?gF ?gy ?_ ?gk ?gx ?gg ?gd) | (with_reducible refine' gX_law_prepares ?gF ?gy ?_ ?gk ?gx ?gg ?gd) | (with_reducible refine' gX_law_sends ?gF ?gy ?_ ?gk ?gx ?gg ?gd) | (with_reducible refine' gX_Authenticator ?gF ?gy ?_ ?gk ?gx ?gg ?gd)); (case gF => assumption); (case gy => assumption); (case gk => with_unfolding_all exact rfl); (case gx => with_unfolding_all exact rfl); (case gg => with_unfolding_all exact rfl); (case gd => with_unfolding_all exact rfl)) | ((first | (with_reducible refine' bX_range ?gF ?gy ?_ ?gk ?gx ?gg ?gb ?gd) | (with_reducible refine' bX_len ?gF ?gy ?_ ?gk ?gx ?gg ?gb ?gd)); (case gF => assumption); (case gy => assumption); (case gk => with_unfolding_all exact rfl); (case gx => with_unfolding_all exact rfl); (case gg => with_unfolding_all exact rfl); (case gb => with_unfolding_all exact rfl); (case gd => with_unfolding_all exact rfl)) | ((first | (with_reducible refine' lX ?gF ?gv ?_ ?gk ?gl ?gd) | (with_reducible refine' lC ?gF ?gv ?_ ?gk ?gl ?gd)); (case gF => assumption); (case gl => with_unfolding_all exact rfl); (case gv => walk_at "NMV"); (case gk => with_unfolding_all exact rfl); (case gd => with_unfolding_all exact rfl)))
  k_with "call ref" => (first
  | ((with_reducible refine' useMake ?gF ?gN ?gy ?gr ?_); (case gF => assumption); (case gN => assumption); (case gy => exact YP.fr (by assumption) (by assumption)); (case gr => exact Room.le (by assumption) (by decide)); intro _ _ _ _ _ _ _ _ _ _)
  | ((with_reducible refine' useB ?gF ?gN (c_fours ?gy ?gr ?go) ?_); (case gF => assumption); (case gN => assumption); (case gy => exact YP.fr (by assumption) (by assumption)); (case gr => exact Room.le (by assumption) (by decide)); (case go => assumption); intro _ _ _ _ _)
  | ((with_reducible refine' useProc ?gF ?gN ?gi ?gy ?gr ?goX ?goR ?gf ?gh ?_); (case gF => assumption); (case gN => assumption); (case gh => assumption); (case gi => assumption); (case gy => exact YP.fr (by assumption) (by assumption)); (case gr => exact Room.le (by assumption) (by decide)); (case goX => assumption); (case goR => assumption); (case gf => first | exact fn246 _ | exact fn253 _); intro _ _ _ _ _))
  k_with "getMethod str" => (refine encM ?_)
  k_with "call builtin:str.encode" => ((refine encU (Okx.bad (by assumption)) (Okx.fit (by assumption)) ?_); intro _ _)
  k_with "getMethod ref" => ((with_reducible refine' processM ?gy ?gI ?_); (case gy => exact YP.fr (by assumption) (by assumption)); (case gI => exact instOf (by assumption) (by assumption)))
  k_with "eval Name" => ((with_reducible refine' cH (L' := 0) ?gN ?gc ?gm ?gd ?_ ?gk ?gx); (case gN => assumption); (case gc => with_unfolding_all exact rfl); (case gm => with_unfolding_all k_mem); (case gd => assumption); (case gk => with_unfolding_all exact rfl); (case gx => with_unfolding_all exact rfl))
  k_with "call builtin:str.encode" => ((refine encU (by assumption) (by rw [sizeLine_eq]; (first | lia | omega)) ?_); intro _ _)
  k_with "binaryOp FloorDiv int int" => (refine fdivE (by decide) (by decide +kernel) ?_)
  trivial
theorem lN {M : Model} {A : Around} {E : Value → Shared → Prop} {s : Shared} {cn : Str} {cs : Scope} {L a : Addr} {cd : Value} {h₀ : Heap} {m : Str → Option Value} {x : Str} {v : Value} {Q : Value → Shared → Prop} (F : Fr h₀ L s.heap m) (hv : m x = some v) (h : Q v s)
    (hk : cs.kind = .function) (hx : (envOfC cn cs L a cd).kindOf x = some .local) : wpAny M A (loadName (envOfC cn cs L a cd) x) Q E s := wpAny_loadName_local (env := envOfC cn cs L a cd) hk hx F.ns hv h
theorem rules_WkR_2 : True := by
  k_with "loadName" => ((with_reducible refine' lN ?gF ?gv ?_ ?gk ?gl); (case gF => assumption); (case gl => with_unfolding_all exact rfl); (case gv => walk_at "NMV"); (case gk => with_unfolding_all exact rfl))
  trivial
noncomputable def stepP (k : Int) (p : List Int × Int) (r : Str) : List Int × Int :=
  if (Txt.slice r none (some 1) == Str.ofString ".") = true then (p.1 ++ [(p.2 + 2) / 3 * 4], p.2 + (((encB Builtin._codecs.utf8Codec r).size : Int) + 2 + (k - 3))) else (p.1, p.2 + (((encB Builtin._codecs.utf8Codec r).size : Int) + 2))
noncomputable def runP (k : Int) (rows : List Str) : List Int × Int := rows.foldl (stepP k) ([], 0)
theorem runP_snoc (k : Int) (rows : List Str) (r : Str) : runP k (rows ++ [r]) = stepP k (runP k rows) r := by simp [runP]
theorem runP_posF (k : Int) (hk : 3 ≤ k) : ∀ (rows : List Str) (P : List Int × Int), 0 ≤ P.2 → (∀ p ∈ P.1, 0 ≤ p) → 0 ≤ (rows.foldl (stepP k) P).2 ∧ ∀ p ∈ (rows.foldl (stepP k) P).1, 0 ≤ p
  | [], P, h1, h2 => ⟨h1, h2⟩
  | r :: rows, P, h1, h2 => by
    rw [List.foldl_cons]
    refine runP_posF k hk rows _ ?_ ?_
    · unfold stepP
      split <;> (dsimp only; (first | lia | omega))
    · unfold stepP
      split
      · intro p hp
        rcases List.mem_append.mp hp with hp | hp
        · exact h2 p hp
        · rw [List.mem_singleton.mp hp]; (first | lia | omega)
      · exact h2
theorem runP_pos {k : Int} (hk : 3 ≤ k) (rows : List Str) : ∀ p ∈ (runP k rows).1, 0 ≤ p := (runP_posF k hk rows ([], 0) (Int.le_refl _) (fun _ h => nomatch h)).2
theorem cutTo {b : Array UInt8} {p : Int} (h0 : 0 ≤ p) : List.take ((some p).elim (KBw.bInts b).length (clipAt (KBw.bInts b).length) - (none : Option Int).elim 0 (clipAt (KBw.bInts b).length)) (List.drop ((none : Option Int).elim 0 (clipAt (KBw.bInts b).length)) (KBw.bInts b)) = (KBw.bInts b).take p.toNat := by
  generalize KBw.bInts b = l
  simp only [Option.elim, clipAt, List.drop_zero, Nat.sub_zero]
  have e : (max 0 (min (if p < 0 then p + l.length else p) l.length)).toNat = min p.toNat l.length := clipP h0 _
  rw [e, ← List.take_take, List.take_length]
theorem cutFrom {b : Array UInt8} {p : Int} (h0 : 0 ≤ p) : List.take ((none : Option Int).elim (KBw.bInts b).length (clipAt (KBw.bInts b).length) - (some p).elim 0 (clipAt (KBw.bInts b).length)) (List.drop ((some p).elim 0 (clipAt (KBw.bInts b).length)) (KBw.bInts b)) = (KBw.bInts b).drop p.toNat := by
  generalize KBw.bInts b = l
  simp only [Option.elim, clipAt]
  have e : (max 0 (min (if p < 0 then p + l.length else p) l.length)).toNat = min p.toNat l.length := clipP h0 _
  rw [e]
  rcases Nat.le_total p.toNat l.length with h | h
  · rw [Nat.min_eq_left h, List.take_of_length_le (by rw [List.length_drop]; (first | lia | omega))]
  · rw [Nat.min_eq_right h, List.drop_of_length_le (Nat.le_refl _), List.drop_of_length_le h]; simp
noncomputable def insL (l : List Int) (p : Int) : List Int := l.take p.toNat ++ [76, 105, 52, 117] ++ l.drop p.toNat
inductive JPi (L G I R : Addr) (oC oI og : Obj) (k : Int) (rs : List Value) (nr : Nat) (rows : List Str) (i : Nat) (m : Str → Option Value) (news : List (Addr × Obj)) : Prop
  | mk (Pl : Addr) (us : List Value) (n : Nat) (t : Tok) : news = [(Pl, listOf us.toArray n), (G, og), (L + 1, oC), (I, oI), (R, listOf rs.toArray nr)] →
      m (Str.ofString "places") = some (.ref Pl) →
      m (Str.ofString "begun") = some (.int (runP k (rows.take i)).2 t) →
      m (Str.ofString "given") = some (.ref G) →
      m (Str.ofString "rows") = some (.ref R) →
      IntsAre us (runP k (rows.take i)).1 →
      us.length ≤ i →
      (∀ p ∈ [(G, og), (L + 1, oC), (I, oI), (R, listOf rs.toArray nr)], p.1 ≠ Pl) →
      0 ≤ (runP k (rows.take i)).2 →
      (runP k (rows.take i)).2 ≤ 50000 * (i : Int) → JPi L G I R oC oI og k rs nr rows i m news
structure JP (L G I R : Addr) (oC oI og : Obj) (k : Int) (rs : List Value) (nr : Nat) (rows : List Str) (i : Nat) (m : Str → Option Value) (news : List (Addr × Obj)) : Prop where
  out : JPi L G I R oC oI og k rs nr rows i m news
inductive JQi (L G I R : Addr) (oC oI og : Obj) (X : Array UInt8) (pls : List Int) (rs : List Value) (nr : Nat) (i : Nat) (m : Str → Option Value) (news : List (Addr × Obj)) : Prop
  | mk (D : Addr) (ws : List Value) (nd : Nat) (q : Array UInt8) (t : Tok) : news = [(D, listOf ws.toArray nd), (G, og), (L + 1, oC), (I, oI), (R, listOf rs.toArray nr)] →
      m (Str.ofString "given") = some (.ref G) →
      m (Str.ofString "rows") = some (.ref R) →
      m (Str.ofString "due") = some (.bytes q t) →
      KBw.bInts q = (pls.take i).foldl insL (KBw.bInts X) →
      q.size ≤ X.size + 4 * i → JQi L G I R oC oI og X pls rs nr i m news
structure JQ (L G I R : Addr) (oC oI og : Obj) (X : Array UInt8) (pls : List Int) (rs : List Value) (nr : Nat) (i : Nat) (m : Str → Option Value) (news : List (Addr × Obj)) : Prop where
  out : JQi L G I R oC oI og X pls rs nr i m news
section
variable {w : World} {A : Around} {E : Value → Shared → Prop} {s : Shared}
theorem sliceTo {prog : Program} {value slice : PySem.Expr} {b : Array UInt8} {t : Tok} {h₀ : Heap} {L : Addr} {m : PySem.Str → Option Value} {news : List (Addr × Obj)} {u : Tok} {p : Int} {Q : Value → Shared → Prop} (hF : Fr h₀ L s.heap m) (hN : News h₀ L s.heap news) (h0 : 0 ≤ p) (hz : b.size ≤ 16777216)
    (h : ∀ h' t' k q, Fr h₀ L h' m → News h₀ L h' news → KBw.bInts q = (KBw.bInts b).take p.toNat → Q (.bytes q t') { s with heap := h', toks := k })
    (hs : subscripted slice false (.bytes b t) (.ref s.heap.objs.size) = operate [.ref s.heap.objs.size, .bytes b t] (getItem (.bytes b t) (.ref s.heap.objs.size)) := by with_unfolding_all rfl)
    (ht : ∀ r, letTemporaryGo value (.bytes b t) r = pure () := by intro _; with_unfolding_all rfl) :
    wpAny (model prog w) A (subscriptTail value slice (.bytes b t) (.ref s.heap.objs.size)) Q E { s with heap := s.heap.push { cls := .type "slice", data := .fields #[.none, .int p u, .none] } } :=
  KBc.slice_K (lo := none) (hi := some p) hF hN rfl (by constructor) (by constructor) (by rw [KBw.ints_length]; exact hz) (fun h' t' k F N e => h h' t' k _ F N (e.trans (cutTo h0))) hs ht
theorem sliceFrom {prog : Program} {value slice : PySem.Expr} {b : Array UInt8} {t : Tok} {h₀ : Heap} {L : Addr} {m : PySem.Str → Option Value} {news : List (Addr × Obj)} {u : Tok} {p : Int} {Q : Value → Shared → Prop} (hF : Fr h₀ L s.heap m) (hN : News h₀ L s.heap news) (h0 : 0 ≤ p) (hz : b.size ≤ 16777216)
    (h : ∀ h' t' k q, Fr h₀ L h' m → News h₀ L h' news → KBw.bInts q = (KBw.bInts b).drop p.toNat → Q (.bytes q t') { s with heap := h', toks := k })
    (hs : subscripted slice false (.bytes b t) (.ref s.heap.objs.size) = operate [.ref s.heap.objs.size, .bytes b t] (getItem (.bytes b t) (.ref s.heap.objs.size)) := by with_unfolding_all rfl)
    (ht : ∀ r, letTemporaryGo value (.bytes b t) r = pure () := by intro _; with_unfolding_all rfl) :
    wpAny (model prog w) A (subscriptTail value slice (.bytes b t) (.ref s.heap.objs.size)) Q E { s with heap := s.heap.push { cls := .type "slice", data := .fields #[.int p u, .none, .none] } } :=
  KBc.slice_K (lo := some p) (hi := none) hF hN rfl (by constructor) (by constructor) (by rw [KBw.ints_length]; exact hz) (fun h' t' k F N e => h h' t' k _ F N (e.trans (cutFrom h0))) hs ht
theorem rules_WkR_3 : True := by
  k_with "subscriptTail" => ((show wpAny _ _ (subscriptTail _ (Expr.Slice _ _ none _) (Value.bytes _ _) (Value.ref _)) _ _ _); (with_reducible rename Fr _ _ _ _ => gF); (with_reducible rename News _ _ _ _ => gN); (first | (refine sliceTo (s := ⟨_, _, _, _, _⟩) gF gN (by assumption) (by (first | lia | omega)) ?_) | (refine sliceFrom (s := ⟨_, _, _, _, _⟩) gF gN (by assumption) (by (first | lia | omega)) ?_)); intro _ _ _ _ _ _ hcut; (have hcutL := congrArg List.length hcut); (simp only [KBw.ints_length, List.length_take, List.length_drop] at hcutL))
  k_with "binaryOp Add bytes bytes" => ((refine KBy.add_bytes (by simp only [Array.size_append, List.size_toArray, List.length_cons, List.length_nil]; first | (have hsum := sumq (show _ = min _ _ by assumption) (by assumption); (first | lia | omega)) | (first | lia | omega)) ?_); intro _ _)
  trivial
set_option maxHeartbeats 3000000 in
theorem turnC {h₀ : Heap} {L a G I R : Addr} {cd : Value} {oC oI : Obj} {gs : List Value} {ng : Nat} {X : Array UInt8} {tX : Tok} {m : Str → Option Value} {k : Int} {tk0 : Tok} {nr : Nat} {rs : List Value} {rows : List Str} {Q : Flow → Shared → Prop} (y : YP w h₀) (hr : Room A 6) (F : Fr h₀ L s.heap m) (N : News h₀ L s.heap [(G, listOf gs.toArray ng), (L + 1, oC), (I, oI), (R, listOf rs.toArray nr)])
    (hgs : gs[(k - 3).toNat]? = some (.bytes X tX)) (hX : X.size ≤ 100000)
    (hcell : oC.data = .cell (some (.int k tk0))) (hk1 : 4 ≤ k) (hk2 : k < 7) (hg : m (Str.ofString "given") = some (.ref G)) (hrw : m (Str.ofString "rows") = some (.ref R)) (hrows : StrsAre rs rows) (hlen : rows.length ≤ 1000) (hok : ∀ r ∈ rows, r.length ≤ 10000 ∧ ∀ y ∈ r.cps.toList, Builtin._codecs.utf8Codec.bad y = false)
    (kk : ∀ q t m' h' tk, KBw.bInts q = (runP k rows).1.reverse.foldl insL (KBw.bInts X) → m' (Str.ofString "given") = some (.ref G) → m' (Str.ofString "rows") = some (.ref R) → m' (Str.ofString "due") = some (.bytes q t) → Fr h₀ L h' m' → News h₀ L h' [(G, listOf gs.toArray ng), (L + 1, oC), (I, oI), (R, listOf rs.toArray nr)] → wpAny (model pw w) A (execs (hb29.drop 2) (EL L a cd)) Q (fun _ _ => False) { s with heap := h', toks := tk }) :
    wpAny (model pw w) A (execs (hb29.drop 1) (EL L a cd)) Q (fun _ _ => False) s := by
  walk_at "STMT"
  · exfalso
    (first | lia | omega)
  walk_at "STMT"
  walk_at "STMT"
  walk_at "ONE"
  rename Fr _ _ _ _ => F3
  rename News _ _ _ _ => N3
  refine for_lst (h₀ := h₀) (JP L G I R oC oI (listOf gs.toArray ng) k rs nr rows) hr.handled (by with_unfolding_all rfl) (by rfl) ?_
  walk_at "ONE"
  refine ⟨⟨R, rs, nr, _, _, rfl, F3, N3, by k_mem, ?J, ?turn, ?done⟩⟩
  case J =>
    refine ⟨⟨_, [], 0, _, rfl, rfl, rfl, ?g, ?r, .nil, Nat.le_refl _, ?ap, Int.le_refl _, Int.le_refl _⟩⟩
    case ap => exact fun p hp e => Nat.lt_irrefl _ (e ▸ Heap.lt_size (N p hp).1)
    case g =>
      show (if _ then _ else if _ then _ else m _) = _
      rw [if_neg (by decide), if_neg (by decide)]; exact hg
    case r =>
      show (if _ then _ else if _ then _ else m _) = _
      rw [if_neg (by decide), if_neg (by decide)]; exact hrw
  case turn =>
    rintro i v m₁ news₁ It oIt hp tk hi ⟨Pl, us, n, tb, rfl, hpl, hb, hg1, hr1, hus, hul, hap, hb0, hb1⟩ hmem hne F4 N4
    obtain ⟨r, tr, rfl, hri⟩ := strs_get hrows hi
    obtain ⟨hrl, hbad⟩ := hok r (List.mem_of_getElem? hri)
    clear F3 N3
    change Fr h₀ L hp _ at F4
    change News h₀ L hp _ at N4
    have htake : rows.take (i + 1) = rows.take i ++ [r] := by simp [List.take_add_one, hri]
    generalize hP : runP k (rows.take i) = P at *
    obtain ⟨pl, bg⟩ := P
    dsimp only at hb hus hb0 hb1
    have hil : i < rows.length := (List.getElem?_eq_some_iff.mp hri).1
    have hes := enc_size r
    have hes2 : r.cps.size ≤ 10000 := hrl
    walk_at "MINEL"
    · rename Fr _ _ _ _ => F5
      rename News _ _ _ _ => N5
      refine appU (own := [_]) F5 N5 (fun p hp e => hne _ (.head _) (by rw [List.mem_singleton.mp hp] at e; exact e.symm)) hap (by (first | lia | omega)) (fun h' n' F6 N6 => ?_)
      clear F5 N5
      dsimp only
      walk_at "MINEL"
      rename Fr _ _ _ _ => F7
      rename News _ _ _ _ => N7
      have hs2 : runP k (rows.take (i + 1)) = (pl ++ [(bg + 2) / 3 * 4], bg + (((encB Builtin._codecs.utf8Codec r).size : Int) + 2 + (k - 3))) := by
        rw [htake, runP_snoc, hP]; unfold stepP; rw [if_pos (by assumption)]
      refine ⟨_, _, _, [(Pl, listOf (us ++ [Value.int ((bg + 2) / 3 * 4) _]).toArray n'), (G, listOf gs.toArray ng), (L + 1, oC), (I, oI), (R, listOf rs.toArray nr)], rfl, F7, N7, ?hI, by k_mem, ⟨⟨Pl, _, n', ?tok, rfl, ?p1, ?p2, ?p3, ?p4, ?p5, ?p6, hap, ?p7, ?p8⟩⟩⟩
      case p2 => rw [hs2]; walk_at "NMV"
      case hI =>
        intro p hp
        rcases List.mem_cons.mp hp with rfl | hp
        · exact hne (Pl, listOf us.toArray n) (.head _)
        · exact hne p (.tail _ hp)
      case p1 => walk_at "NMV"
      case p3 => walk_at "NMV"
      case p4 => walk_at "NMV"
      case p5 => rw [hs2]; exact hus.append (.cons _ _ .nil)
      case p6 => simp only [List.length_append, List.length_cons, List.length_nil]; (first | lia | omega)
      case p7 => rw [hs2]; dsimp only; (first | lia | omega)
      case p8 => rw [hs2]; dsimp only; (first | lia | omega)
    · rename Fr _ _ _ _ => F7
      rename News _ _ _ _ => N7
      have hs2 : runP k (rows.take (i + 1)) = (pl, bg + (((encB Builtin._codecs.utf8Codec r).size : Int) + 2)) := by
        rw [htake, runP_snoc, hP]; unfold stepP; rw [if_neg (ne_true_of_eq_false (by assumption))]
      refine ⟨_, _, _, [(Pl, listOf us.toArray n), (G, listOf gs.toArray ng), (L + 1, oC), (I, oI), (R, listOf rs.toArray nr)], rfl, F7, N7, hne, by k_mem, ⟨⟨Pl, _, n, ?tok2, rfl, ?q1, ?q2, ?q3, ?q4, ?q5, ?q6, hap, ?q7, ?q8⟩⟩⟩
      case q2 => rw [hs2]; walk_at "NMV"
      case q1 => walk_at "NMV"
      case q3 => walk_at "NMV"
      case q4 => walk_at "NMV"
      case q5 => rw [hs2]; exact hus
      case q6 => (first | lia | omega)
      case q7 => rw [hs2]; dsimp only; (first | lia | omega)
      case q8 => rw [hs2]; dsimp only; (first | lia | omega)
  case done =>
    rintro m' news' hp tk ⟨Pl, us, n, tb, rfl, hpl, hb, hg1, hr1, hus, hul, hap, hb0, hb1⟩ F4 N4
    clear F3 N3
    change Fr h₀ L hp _ at F4
    change News h₀ L hp _ at N4
    have hrl : rs.length = rows.length := hrows.length
    rw [hrl, List.take_length] at hus
    walk_at "STMT"
    refine kim_list N4 (by k_mem) rfl rfl (by (first | lia | omega)) (by (first | lia | omega)) hgs ?_
    walk_at "STMT"
    walk_at "ONE"
    refine for_lst (h₀ := h₀) (JQ L G I R oC oI (listOf gs.toArray ng) X (runP k rows).1.reverse rs nr) hr.handled (by with_unfolding_all rfl) (by rfl) ?_
    walk_at "MINEL"
    rename Fr _ _ _ _ => F6
    rename News _ _ _ _ => N6
    rw [krv_pick, List.toList_toArray] at N6
    have hpos := runP_pos (k := k) (by (first | lia | omega)) rows
    refine ⟨⟨_, us.reverse, 0, _, [(_, _), (G, listOf gs.toArray ng), (L + 1, oC), (I, oI), (R, listOf rs.toArray nr)], rfl, F6, ?N79, .head _, ⟨⟨_, us.reverse, 0, X, tX, rfl, ?g9, ?r9, rfl, rfl, Nat.le_refl _⟩⟩, ?turn9, ?done9⟩⟩
    case N79 =>
      intro p hp
      rcases List.mem_cons.mp hp with rfl | hp
      · exact N6 _ (.head _)
      · exact N6 p (.tail _ (.tail _ hp))
    case g9 => walk_at "NMV"
    case r9 => walk_at "NMV"
    case turn9 =>
      rintro i v m₁ news₁ It oIt hp2 tk2 hi ⟨D, ws, nd, q, tq, rfl, hg2, hr2, hd2, hq2, hq3⟩ hmem hne F8 N8
      obtain ⟨p, tp, rfl, hpi⟩ := ints_get hus.reverse hi
      have hp0 : 0 ≤ p := hpos p (List.mem_reverse.mp (List.mem_of_getElem? hpi))
      have hul2 : us.length ≤ 1000 := by (first | lia | omega)
      have hiu : i < us.length := by have := (List.getElem?_eq_some_iff.mp hi).1; rwa [List.length_reverse] at this
      clear F6 N6
      change Fr h₀ L hp2 _ at F8
      change News h₀ L hp2 _ at N8
      walk_at "MINEL"
      rename Fr _ _ _ _ => F9
      rename News _ _ _ _ => N9
      rename KBw.bInts _ = List.take _ _ => hcA
      rename KBw.bInts _ = List.drop _ _ => hcB
      have htk : (runP k rows).1.reverse.take (i + 1) = (runP k rows).1.reverse.take i ++ [p] := by simp [List.take_add_one, hpi]
      refine ⟨_, _, _, [(D, listOf ws.toArray nd), (G, listOf gs.toArray ng), (L + 1, oC), (I, oI), (R, listOf rs.toArray nr)], rfl, F9, N9, hne, hmem, ⟨⟨D, ws, nd, ?qq4, ?tok4, rfl, ?z1, ?z2, ?z3, ?z4, ?z5⟩⟩⟩
      case z3 => walk_at "NMV"
      case z1 => walk_at "NMV"
      case z2 => walk_at "NMV"
      case z4 =>
        rw [KBw.ints_app (KBw.ints_app hcA rfl) hcB, htk, List.foldl_append, ← hq2]
        rfl
      case z5 =>
        simp only [Array.size_append, List.size_toArray, List.length_cons, List.length_nil]
        (first | lia | omega)
    case done9 =>
      rintro m2 news' hp2 tk2 ⟨D, ws, nd, q, tq, rfl, hg2, hr2, hd2, hq2, hq3⟩ F8 N8
      clear F6 N6
      change Fr h₀ L hp2 _ at F8
      change News h₀ L hp2 _ at N8
      rw [List.length_reverse, hus.length, ← List.length_reverse, List.take_length] at hq2
      dsimp only
      refine wpAny_execs_nil ?_
      dsimp only
      exact kk q tq m2 hp2 tk2 hq2 hg2 hr2 hd2 F8 (fun p hp => N8 p (.tail _ hp))
end
end Mine
end P_WkR
section P_WkS
open PySem PySem.W PySem.Calls PyProof.Rows
set_option linter.unusedVariables false
set_option maxRecDepth 100000
namespace Mine
theorem rules_WkS_1 : True := by
  k_with_none
  k_with "call type:type" => ((with_reducible refine' call_type_of (Tx := "bytes") (typeIs_bytes _ _ _) ?hnb ?_); (case hnb => decide))
  k_with "And" => ((with_reducible show YP _ _ ∧ wpAny _ _ (call (Value.ref _) _ _) _ _ _); refine' And.intro ?gA ?_; (case gA => exact YP.fr (by assumption) (by assumption)))
  k_with "getMethod ref" => (refine' listMethod_K ?gN ?gm PySem.F.slot_list_append PySem.F.type_list_append ?_; (case gN => assumption); (case gm => k_mem))
  k_with "call builtin:list.append" => ((refine' append_K ?gF ?gN ?gU ?_ ?gz; (case gF => assumption); (case gN => assumption); (case gU => k_upd); (case gz => first | assumption | (simp only [Array.size_push, List.size_toArray, List.length_append, List.length_cons, List.length_nil, sizeLine_eq] at *; (first | lia | omega)) | size_fits)); intro _ _ _)
  k_with "call ref" => ((first
  | (with_reducible refine' useI ?gF ?gN (c_b64_value ?gy ?gr) ?_)
  | (with_reducible refine' useB ?gF ?gN (c_ascii_buffer ?gy ?gr) ?_)
  | (with_reducible refine' useB ?gF ?gN (c_buffer ?gy ?gr) ?_)
  | (with_reducible refine' useT ?gF ?gN (c_truth ?gy ?gr) ?_)); (case gF => assumption); (case gN => assumption); (case gy => exact YP.fr (by assumption) (by assumption)); (case gr => exact Room.le (by assumption) (by decide)); intros)
  k_with "eval Name" => (first | ((first | (with_reducible refine' lX ?gF ?gv ?_ ?gk ?gl ?gd) | (with_reducible refine' lC ?gF ?gv ?_ ?gk ?gl ?gd)); (case gF => assumption); (case gl => with_unfolding_all exact rfl); (case gv => first | (with_reducible assumption) | (with_unfolding_all exact rfl)); (case gk => with_unfolding_all exact rfl); (case gd => with_unfolding_all exact rfl)) | ((with_reducible refine' lX ?gF ?gv ?_ ?gk ?gl ?gd); (case gF => assumption); (case gl => with_unfolding_all exact rfl); (case gv => first | (with_reducible assumption) | (with_unfolding_all exact rfl)); (case gk => with_unfolding_all exact rfl); (case gd => with_unfolding_all exact rfl)) | ((first | (with_reducible refine' gX ?gF ?gy (g_law_piece _) ?_ ?gk ?gx ?gg ?gd) | (with_reducible refine' gX ?gF ?gy (g_law_rows _) ?_ ?gk ?gx ?gg ?gd) | (with_reducible refine' gX ?gF ?gy (g_law_in_fours _) ?_ ?gk ?gx ?gg ?gd) | (with_reducible refine' gX ?gF ?gy (g_law_prepares _) ?_ ?gk ?gx ?gg ?gd) | (with_reducible refine' gX ?gF ?gy (g_law_sends _) ?_ ?gk ?gx ?gg ?gd) | (with_reducible refine' gX ?gF ?gy (g_Authenticator _) ?_ ?gk ?gx ?gg ?gd)); (case gF => assumption); (case gy => assumption); (case gk => with_unfolding_all exact rfl); (case gx => with_unfolding_all exact rfl); (case gg => with_unfolding_all exact rfl); (case gd => with_unfolding_all exact rfl)) | ((first | (with_reducible refine' bX ?gF ?gy (n_range _) (b_range _) ?_ ?gk ?gx ?gg ?gb ?gd) | (with_reducible refine' bX ?gF ?gy (n_len _) (b_len _) ?_ ?gk ?gx ?gg ?gb ?gd)); (case gF => assumption); (case gy => assumption); (case gk => with_unfolding_all exact rfl); (case gx => with_unfolding_all exact rfl); (case gg => with_unfolding_all exact rfl); (case gb => with_unfolding_all exact rfl); (case gd => with_unfolding_all exact rfl)))
  k_with "storeName" => ((first | (with_reducible refine' sX ?gF ?gN ?_ ?gk ?gx) | (with_reducible refine' sC ?gF ?gN ?_ ?gk ?gx)); (case gF => assumption); (case gN => assumption); (case gk => with_unfolding_all exact rfl); (case gx => with_unfolding_all exact rfl); intro _ _ _)
  k_with "NMV" => first | (with_reducible assumption) | (with_reducible exact if_pos rfl) | ((refine Eq.trans (if_neg (by decide)) ?_); walk_at "NMV") | (with_unfolding_all exact rfl)
  k_with "MINEL" => repeat' ((fail_if_success (with_reducible show wpAny _ _ (eval (Expr.ListComp _ _ _ _) _) _ _ _)); (fail_if_success (with_reducible show InvEndN _ _ _ _ _ _ _)); (fail_if_success (with_reducible show WNext _ _ _ _ _ _ _ _ _ _ _)); (fail_if_success (with_reducible show wpAny _ _ (exec (Stmt.While _ _ _ _) _) _ _ _)); (fail_if_success (with_reducible show wpAny _ _ (exec (Stmt.For _ _ _ _ _) _) _ _ _)); walk1)
  k_with "ONE" => walk1
  k_with "callWith ref" => (first | (refine callWith_y ⟨_, _, (by with_unfolding_all exact rfl), (by with_unfolding_all exact rfl)⟩ ?_) | (refine callWith_m (f := 116) (YP.fr (by assumption) (by assumption)) (fun P => (k_keep P).1) ?_) | (refine callWith_c (YP.fr (by assumption) (by assumption)) ?_))
  k_with "eval Name" => (first | ((first | (with_reducible refine' gX_law_rows ?gF ?gy ?_ ?gk ?gx ?gg ?gd) | (with_reducible refine' gX_law_in_fours ?gF ?gy ?_ ?gk ?gx ?gg ?gd) | (with_reducible refine' gX_law_prepares ?gF ?gy ?_ ?gk ?gx ?gg ?gd) | (with_reducible refine' gX_law_sends ?gF ?gy ?_ ?gk ?gx ?gg ?gd) | (with_reducible refine' gX_Authenticator ?gF ?gy ?_ ?gk ?gx ?gg ?gd)); (case gF => assumption); (case gy => assumption); (case gk => with_unfolding_all exact rfl); (case gx => with_unfolding_all exact rfl); (case gg => with_unfolding_all exact rfl); (case gd => with_unfolding_all exact rfl)) | ((first | (with_reducible refine' bX_range ?gF ?gy ?_ ?gk ?gx ?gg ?gb ?gd) | (with_reducible refine' bX_len ?gF ?gy ?_ ?gk ?gx ?gg ?gb ?gd)); (case gF => assumption); (case gy => assumption); (case gk => with_unfolding_all exact rfl); (case gx => with_unfolding_all exact rfl); (case gg => with_unfolding_all exact rfl); (case gb => with_unfolding_all exact rfl); (case gd => with_unfolding_all exact rfl)) | ((first | (with_reducible refine' lX ?gF ?gv ?_ ?gk ?gl ?gd) | (with_reducible refine' lC ?gF ?gv ?_ ?gk ?gl ?gd)); (case gF => assumption); (case gl => with_unfolding_all exact rfl); (case gv => walk_at "NMV"); (case gk => with_unfolding_all exact rfl); (case gd => with_unfolding_all exact rfl)))
  k_with "call ref" => (first
  | ((with_reducible refine' useMake ?gF ?gN ?gy ?gr ?_); (case gF => assumption); (case gN => assumption); (case gy => exact YP.fr (by assumption) (by assumption)); (case gr => exact Room.le (by assumption) (by decide)); intro _ _ _ _ _ _ _ _ _ _)
  | ((with_reducible refine' useB ?gF ?gN (c_fours ?gy ?gr ?go) ?_); (case gF => assumption); (case gN => assumption); (case gy => exact YP.fr (by assumption) (by assumption)); (case gr => exact Room.le (by assumption) (by decide)); (case go => assumption); intro _ _ _ _ _)
  | ((with_reducible refine' useProc ?gF ?gN ?gi ?gy ?gr ?goX ?goR ?gf ?gh ?_); (case gF => assumption); (case gN => assumption); (case gh => assumption); (case gi => assumption); (case gy => exact YP.fr (by assumption) (by assumption)); (case gr => exact Room.le (by assumption) (by decide)); (case goX => assumption); (case goR => assumption); (case gf => first | exact fn246 _ | exact fn253 _); intro _ _ _ _ _))
  k_with "getMethod str" => (refine encM ?_)
  k_with "call builtin:str.encode" => ((refine encU (Okx.bad (by assumption)) (Okx.fit (by assumption)) ?_); intro _ _)
  k_with "getMethod ref" => ((with_reducible refine' processM ?gy ?gI ?_); (case gy => exact YP.fr (by assumption) (by assumption)); (case gI => exact instOf (by assumption) (by assumption)))
  k_with "eval Name" => ((with_reducible refine' cH (L' := 0) ?gN ?gc ?gm ?gd ?_ ?gk ?gx); (case gN => assumption); (case gc => with_unfolding_all exact rfl); (case gm => with_unfolding_all k_mem); (case gd => assumption); (case gk => with_unfolding_all exact rfl); (case gx => with_unfolding_all exact rfl))
  trivial
/-- the texts that the hands send, and what the law asks of them -/
noncomputable def Tx (x : Str) : Nat → Str
  | 0 => x
  | k + 1 => dotted (crlfed (Tx x k))
structure Told (x : Str) (rows : List Str) : Prop where
  ok : ∀ k, k ≤ 6 → Okx (Tx x k)
  sub : ∀ k, k < 6 → SubOk (Tx x k)
  len : rows.length ≤ 1000
  row : ∀ r ∈ rows, r.length ≤ 10000 ∧ ∀ y ∈ r.cps.toList, Builtin._codecs.utf8Codec.bad y = false
  sent : ∀ k : Nat, 1 ≤ k → k < 4 → sentOf (k : Int) rows = Tx x k
  join : ∀ k : Nat, 1 ≤ k → k < 4 → JoinOk (Str.ofString "\r\n") (rows.map (dotRow (k : Int))) = true
  put : ∀ k : Nat, 4 ≤ k → k < 7 → (runP (k : Int) rows).1.reverse.foldl insL (foursI (O (Tx x (k - 3)))) = foursI (O (Tx x k))
noncomputable def GS (x : Str) (gs : List Value) (i : Nat) : Prop := gs.length = i + 1 ∧ ∀ j, j ≤ i → ∃ t, gs[j]? = some (.bytes (gv (Tx x j)) t)
theorem GS.last {x : Str} {gs : List Value} {i : Nat} (h : GS x gs i) : ∃ us t, gs = us ++ [Value.bytes (gv (Tx x i)) t] ∧ us.length = i := by
  obtain ⟨h1, h2⟩ := h
  rcases List.eq_nil_or_concat gs with e | ⟨a, b, e⟩
  · rw [e] at h1; simp at h1
  · have e' : gs = a ++ [b] := by simpa using e
    subst e'
    have hl : a.length = i := by simpa using h1
    obtain ⟨t, ht⟩ := h2 i (Nat.le_refl _)
    rw [List.getElem?_append_right (by (first | lia | omega)), hl, Nat.sub_self] at ht
    simp at ht
    exact ⟨a, t, by rw [ht], hl⟩
theorem GS.snoc {x : Str} {gs : List Value} {i : Nat} {t : Tok} (h : GS x gs i) : GS x (gs ++ [Value.bytes (gv (Tx x (i + 1))) t]) (i + 1) := by
  obtain ⟨h1, h2⟩ := h
  refine ⟨by simp [h1], fun j hj => ?_⟩
  by_cases hji : j ≤ i
  · obtain ⟨t, ht⟩ := h2 j hji
    exact ⟨t, by rw [List.getElem?_append_left (by (first | lia | omega))]; exact ht⟩
  · have : j = i + 1 := by (first | lia | omega)
    subst this
    exact ⟨t, by rw [List.getElem?_append_right (by (first | lia | omega)), h1, Nat.sub_self]; rfl⟩
theorem gv_ints {x : Str} : KBw.bInts (gv x) = foursI (O x) := byteArr_ints fun n hn => by have := foursI_in _ (O_oct x) n hn; (first | lia | omega)
theorem gv_of {q : Array UInt8} {x : Str} (h : KBw.bInts q = foursI (O x)) : q = gv x := by
  unfold gv
  rw [← h, ints_byteArr]
inductive JHi (L G R : Addr) (x : Str) (rs : List Value) (nr : Nat) (i : Nat) (m : Str → Option Value) (news : List (Addr × Obj)) : Prop
  | mk (gs : List Value) (n : Nat) : news = [(G, listOf gs.toArray n), (R, listOf rs.toArray nr)] →
      GS x gs i →
      m (Str.ofString "given") = some (.ref G) →
      m (Str.ofString "rows") = some (.ref R) → JHi L G R x rs nr i m news
structure JH (L G R : Addr) (x : Str) (rs : List Value) (nr : Nat) (i : Nat) (m : Str → Option Value) (news : List (Addr × Obj)) : Prop where
  out : JHi L G R x rs nr i m news
section
variable {w : World} {A : Around} {E : Value → Shared → Prop} {s : Shared}
set_option maxHeartbeats 3000000 in
theorem law8step {h₀ : Heap} {L a G R I : Addr} {cd : Value} {oC oI : Obj} {m : Str → Option Value} {x : Str} {tv : Tok} {n nr i : Nat} {gs rs : List Value} {rows : List Str} {Q : Flow → Shared → Prop} {s₂ : Shared} (y : YP w h₀) (hr : Room A 6) (hi : i < 6) (F : Fr h₀ L s.heap m) (N : News h₀ L s.heap [(L + 1, oC), (I, oI), (G, listOf gs.toArray n), (R, listOf rs.toArray nr)])
    (hoC : oC.data = .cell (some (.int (1 + (i : Int) * 1) tv))) (hap : ∀ p ∈ [(G, listOf gs.toArray n), (R, listOf rs.toArray nr)], p.1 ≠ I ∧ p.1 ≠ L + 1) (hGR : R ≠ G) (hgs : GS x gs i) (hg : m (Str.ofString "given") = some (.ref G)) (hrw : m (Str.ofString "rows") = some (.ref R)) (hrows : StrsAre rs rows) (hT : Told x rows)
    (hs2 : ∃ h tk, s = { s₂ with heap := h, toks := tk } := by exact ⟨_, _, rfl⟩) :
    wpAny (model pw w) A (execs hb29 (EL L a cd)) (CEnd h₀ L (L + 1) I oC oI (JH L G R x rs nr (i + 1)) s₂ Q) (fun _ _ => False) s := by
  obtain ⟨hh2, tk2, hs2⟩ := hs2
  obtain ⟨us, tl, rfl, hus⟩ := hgs.last
  have hap1 := hap _ (.head _)
  have hap2 := hap _ (.tail _ (.head _))
  have hrest : ∀ p ∈ [(L + 1, oC), (I, oI), (R, listOf rs.toArray nr)], p.1 ≠ G := by
    intro p hp
    rcases List.mem_cons.mp hp with rfl | hp
    · exact Ne.symm hap1.2
    rcases List.mem_cons.mp hp with rfl | hp
    · exact Ne.symm hap1.1
    · rw [List.mem_singleton.mp hp]; exact hGR
  have hk : (1 : Int) + (i : Int) * 1 = ((i + 1 : Nat) : Int) := by (first | lia | omega)
  rw [hk] at hoC
  have hfin : ∀ (n5 : Nat) (t5 : Tok) (m5 : Str → Option Value) (h5 : Heap) (tk5 : Nat) , m5 (Str.ofString "given") = some (.ref G) → m5 (Str.ofString "rows") = some (.ref R) → Fr h₀ L h5 m5 → News h₀ L h5 [(G, listOf (us ++ [Value.bytes (gv (Tx x i)) tl] ++ [Value.bytes (gv (Tx x (i + 1))) t5]).toArray n5), (L + 1, oC), (I, oI), (R, listOf rs.toArray nr)] →
      CEnd h₀ L (L + 1) I oC oI (JH L G R x rs nr (i + 1)) s₂ Q .next { s with heap := h5, toks := tk5 } := by
    intro n5 t5 m5 h5 tk5 a1 a2 F5 N5
    refine ⟨h5, tk5, m5, [(G, listOf (us ++ [Value.bytes (gv (Tx x i)) tl] ++ [Value.bytes (gv (Tx x (i + 1))) t5]).toArray n5), (R, listOf rs.toArray nr)], by rw [hs2], F5, fun p hp => N5 p ?_, ?_, ⟨⟨_, n5, rfl, hgs.snoc, a1, a2⟩⟩⟩
    · simp only [List.mem_cons, List.not_mem_nil, or_false] at hp ⊢
      rcases hp with hp | hp | hp | hp
      · exact .inr (.inl hp)
      · exact .inr (.inr (.inl hp))
      · exact .inl hp
      · exact .inr (.inr (.inr hp))
    · intro p hp
      rcases List.mem_cons.mp hp with rfl | hp
      · exact hap1
      · rw [List.mem_singleton.mp hp]; exact hap2
  refine turnA (us := us) (X := Tx x i) (t := tl) (n := n) (rest := [(L + 1, oC), (I, oI), (R, listOf rs.toArray nr)]) y hr F (fun p hp => N p ?_) hrest hg (hT.ok i (by (first | lia | omega))) (hT.ok (i + 1) (by (first | lia | omega))) (hT.sub i hi) (by (first | lia | omega)) (fun n2 t2 h2 tk2 F3 N3 => ?_)
  · simp only [List.mem_cons, List.not_mem_nil, or_false] at hp ⊢
    rcases hp with hp | hp | hp | hp
    · exact .inr (.inr (.inl hp))
    · exact .inl hp
    · exact .inr (.inl hp)
    · exact .inr (.inr (.inr hp))
  have hlast : (us ++ [Value.bytes (gv (Tx x i)) tl] ++ [Value.bytes (gv (Tx x (i + 1))) t2])[((i + 1 : Nat) : Int).toNat]? = some (.bytes (gv (Tx x (i + 1))) t2) := by
    rw [Int.toNat_natCast, List.getElem?_append_right (by simp [hus])]
    simp [hus]
  by_cases hk4 : i + 1 < 4
  · refine turnB (k := ((i + 1 : Nat) : Int)) (rows := rows) y hr F3 N3 hoC (by (first | lia | omega)) (by (first | lia | omega)) hg hrw hrows hT.len (fun r hr => (hT.row r hr).1) (by rw [hT.sent (i + 1) (by (first | lia | omega)) hk4]; exact hT.ok (i + 1) (by (first | lia | omega))) (hT.join (i + 1) (by (first | lia | omega)) hk4) (fun t3 m3 h3 tk3 hg3 hr3 hd3 F4 N4 => ?_)
    rw [hT.sent (i + 1) (by (first | lia | omega)) hk4] at hd3
    exact turnD y hr F4 N4 hoC (by (first | lia | omega)) (by (first | lia | omega)) hlast hg3 hd3 (fun h5 tk5 F5 N5 => hfin _ _ _ _ _ hg3 hr3 F5 N5)
  · have hg2 : ∃ tX, (us ++ [Value.bytes (gv (Tx x i)) tl] ++ [Value.bytes (gv (Tx x (i + 1))) t2])[(((i + 1 : Nat) : Int) - 3).toNat]? = some (.bytes (gv (Tx x (i + 1 - 3))) tX) := by
      obtain ⟨t0, h0⟩ := hgs.2 (i + 1 - 3) (by (first | lia | omega))
      refine ⟨t0, ?_⟩
      rw [show (((i + 1 : Nat) : Int) - 3).toNat = i + 1 - 3 by (first | lia | omega), List.getElem?_append_left (by have := hgs.1; (first | lia | omega))]
      exact h0
    obtain ⟨tX, hgX⟩ := hg2
    refine turnC (k := ((i + 1 : Nat) : Int)) (rows := rows) (X := gv (Tx x (i + 1 - 3))) (tX := tX) y hr F3 N3 hgX (by have := gv_size (hT.ok (i + 1 - 3) (by (first | lia | omega))); (first | lia | omega)) hoC (by (first | lia | omega)) (by (first | lia | omega)) hg hrw hrows hT.len hT.row (fun q t3 m3 h3 tk3 hq hg3 hr3 hd3 F4 N4 => ?_)
    rw [gv_ints, hT.put (i + 1) (by (first | lia | omega)) (by (first | lia | omega))] at hq
    rw [gv_of hq] at hd3
    exact turnD y hr F4 N4 hoC (by (first | lia | omega)) (by (first | lia | omega)) hlast hg3 hd3 (fun h5 tk5 F5 N5 => hfin _ _ _ _ _ hg3 hr3 F5 N5)
set_option maxHeartbeats 3000000 in
theorem law8 {h₀ : Heap} {L a G R : Addr} {cd : Value} {c0 : Obj} {v0 : Option Value} {m : Str → Option Value} {x : Str} {t : Tok} {n nr : Nat} {rs : List Value} {rows : List Str} {Q : Flow → Shared → Prop} (y : YP w h₀) (hr : Room A 6) (F : Fr h₀ L s.heap m) (N : News h₀ L s.heap [(G, listOf [Value.bytes (gv x) t].toArray n), (R, listOf rs.toArray nr), (L + 1, c0)])
    (hc0 : c0.data = .cell v0) (hGR : R ≠ G) (hGC : G ≠ L + 1) (hRC : R ≠ L + 1) (hg : m (Str.ofString "given") = some (.ref G)) (hrw : m (Str.ofString "rows") = some (.ref R)) (hrows : StrsAre rs rows) (hT : Told x rows)
    (kk : ∀ m' h' tk, Fr h₀ L h' m' → Q (.ret (.bool true)) { s with heap := h', toks := tk }) :
    wpAny (model pw w) A (execs ((fnBody (stAt 29)).drop 7) (EL L a cd)) Q (fun _ _ => False) s := by
  walk_at "ONE"
  refine for_cell (h₀ := h₀) (C := L + 1) (JH L G R x rs nr) rfl (by with_unfolding_all rfl) (by with_unfolding_all rfl) ?_
  walk_at "MINEL"
  rename IsRange _ _ _ _ _ _ _ _ => hR
  rename Fr _ _ _ _ => F2
  rename News _ _ _ _ => N2
  refine wpAny_pyIter_range hR (by decide) ?_
  have hL2 : L < _ := F2.ns.lt
  refine ⟨⟨_, 6, _, _, m, [(G, listOf [Value.bytes (gv x) t].toArray n), (R, listOf rs.toArray nr)], c0, v0, rfl, Walks.range hr.handled _ 1 1 6, ?st, ?oo, next_is_new F2, ?il, ?ic, ?ap, F2.push _, ?nn, hc0, ⟨⟨_, n, rfl, ⟨rfl, ?g0⟩, hg, hrw⟩⟩, ?step, ?done⟩⟩
  case st => exact Heap.get?_push_size _ rfl
  case oo => exact fun i h e => ⟨_, e⟩
  case il => exact fun e => absurd (e ▸ F2.ns.lt) (Nat.lt_irrefl _)
  case ic => exact fun e => Nat.lt_irrefl _ (e ▸ Heap.lt_size (N2 (L + 1, c0) (.tail _ (.tail _ (.head _)))).1)
  case ap =>
    intro p hp
    refine ⟨fun e => Nat.lt_irrefl _ (e ▸ Heap.lt_size (N2 p ?ma).1), ?mb⟩
    case ma =>
      rcases List.mem_cons.mp hp with rfl | hp
      · exact .head _
      · rw [List.mem_singleton.mp hp]; exact .tail _ (.head _)
    case mb =>
      rcases List.mem_cons.mp hp with rfl | hp
      · exact hGC
      · rw [List.mem_singleton.mp hp]; exact hRC
  case nn =>
    intro p hp
    have hp2 : p ∈ [(G, listOf [Value.bytes (gv x) t].toArray n), (R, listOf rs.toArray nr), (L + 1, c0)] := by
      rcases List.mem_cons.mp hp with rfl | hp
      · exact .tail _ (.tail _ (.head _))
      rcases List.mem_cons.mp hp with rfl | hp
      · exact .head _
      · rw [List.mem_singleton.mp hp]; exact .tail _ (.head _)
    have z := N2 p hp2
    exact ⟨Heap.get?_push_of_some _ z.1, z.2⟩
  case g0 =>
    intro j hj
    obtain rfl : j = 0 := by (first | lia | omega)
    exact ⟨t, rfl⟩
  case done =>
    rintro m' news' hp tk ⟨gs, n', rfl, hgs, hg', hrw'⟩ F' N'
    change Fr h₀ L hp _ at F'
    change News h₀ L hp _ at N'
    clear F2 N2
    dsimp only
    walk_at "MINEL"
    exact kk m' _ _ F'
  case step =>
    rintro i v m₁ news₁ oC oI hp tk hi ⟨tv, rfl⟩ ⟨gs, n', rfl, hgs, hg', hrw'⟩ hoC hap F' N'
    clear F2 N2
    exact law8step (s := ⟨hp, _, _, tk, _⟩) y hr hi F' N' hoC hap hGR hgs hg' hrw' hrows hT
end
end Mine
end P_WkS
section P_WkT
open PySem PySem.W PySem.Calls PyProof.Rows
set_option linter.unusedVariables false
set_option maxRecDepth 100000
namespace Mine
theorem rules_WkT_1 : True := by
  k_with_none
  k_with "call type:type" => ((with_reducible refine' call_type_of (Tx := "bytes") (typeIs_bytes _ _ _) ?hnb ?_); (case hnb => decide))
  k_with "And" => ((with_reducible show YP _ _ ∧ wpAny _ _ (call (Value.ref _) _ _) _ _ _); refine' And.intro ?gA ?_; (case gA => exact YP.fr (by assumption) (by assumption)))
  k_with "getMethod ref" => (refine' listMethod_K ?gN ?gm PySem.F.slot_list_append PySem.F.type_list_append ?_; (case gN => assumption); (case gm => k_mem))
  k_with "call builtin:list.append" => ((refine' append_K ?gF ?gN ?gU ?_ ?gz; (case gF => assumption); (case gN => assumption); (case gU => k_upd); (case gz => first | assumption | (simp only [Array.size_push, List.size_toArray, List.length_append, List.length_cons, List.length_nil, sizeLine_eq] at *; (first | lia | omega)) | size_fits)); intro _ _ _)
  k_with "call ref" => ((first
  | (with_reducible refine' useI ?gF ?gN (c_b64_value ?gy ?gr) ?_)
  | (with_reducible refine' useB ?gF ?gN (c_ascii_buffer ?gy ?gr) ?_)
  | (with_reducible refine' useB ?gF ?gN (c_buffer ?gy ?gr) ?_)
  | (with_reducible refine' useT ?gF ?gN (c_truth ?gy ?gr) ?_)); (case gF => assumption); (case gN => assumption); (case gy => exact YP.fr (by assumption) (by assumption)); (case gr => exact Room.le (by assumption) (by decide)); intros)
  k_with "eval Name" => (first | ((first | (with_reducible refine' lX ?gF ?gv ?_ ?gk ?gl ?gd) | (with_reducible refine' lC ?gF ?gv ?_ ?gk ?gl ?gd)); (case gF => assumption); (case gl => with_unfolding_all exact rfl); (case gv => first | (with_reducible assumption) | (with_unfolding_all exact rfl)); (case gk => with_unfolding_all exact rfl); (case gd => with_unfolding_all exact rfl)) | ((with_reducible refine' lX ?gF ?gv ?_ ?gk ?gl ?gd); (case gF => assumption); (case gl => with_unfolding_all exact rfl); (case gv => first | (with_reducible assumption) | (with_unfolding_all exact rfl)); (case gk => with_unfolding_all exact rfl); (case gd => with_unfolding_all exact rfl)) | ((first | (with_reducible refine' gX ?gF ?gy (g_law_piece _) ?_ ?gk ?gx ?gg ?gd) | (with_reducible refine' gX ?gF ?gy (g_law_rows _) ?_ ?gk ?gx ?gg ?gd) | (with_reducible refine' gX ?gF ?gy (g_law_in_fours _) ?_ ?gk ?gx ?gg ?gd) | (with_reducible refine' gX ?gF ?gy (g_law_prepares _) ?_ ?gk ?gx ?gg ?gd) | (with_reducible refine' gX ?gF ?gy (g_law_sends _) ?_ ?gk ?gx ?gg ?gd) | (with_reducible refine' gX ?gF ?gy (g_Authenticator _) ?_ ?gk ?gx ?gg ?gd)); (case gF => assumption); (case gy => assumption); (case gk => with_unfolding_all exact rfl); (case gx => with_unfolding_all exact rfl); (case gg => with_unfolding_all exact rfl); (case gd => with_unfolding_all exact rfl)) | ((first | (with_reducible refine' bX ?gF ?gy (n_range _) (b_range _) ?_ ?gk ?gx ?gg ?gb ?gd) | (with_reducible refine' bX ?gF ?gy (n_len _) (b_len _) ?_ ?gk ?gx ?gg ?gb ?gd)); (case gF => assumption); (case gy => assumption); (case gk => with_unfolding_all exact rfl); (case gx => with_unfolding_all exact rfl); (case gg => with_unfolding_all exact rfl); (case gb => with_unfolding_all exact rfl); (case gd => with_unfolding_all exact rfl)))
  k_with "storeName" => ((first | (with_reducible refine' sX ?gF ?gN ?_ ?gk ?gx) | (with_reducible refine' sC ?gF ?gN ?_ ?gk ?gx)); (case gF => assumption); (case gN => assumption); (case gk => with_unfolding_all exact rfl); (case gx => with_unfolding_all exact rfl); intro _ _ _)
  k_with "NMV" => first | (with_reducible assumption) | (with_reducible exact if_pos rfl) | ((refine Eq.trans (if_neg (by decide)) ?_); walk_at "NMV") | (with_unfolding_all exact rfl)
  k_with "callWith ref" => (first | (refine callWith_y ⟨_, _, (by with_unfolding_all exact rfl), (by with_unfolding_all exact rfl)⟩ ?_) | (refine callWith_m (f := 116) (YP.fr (by assumption) (by assumption)) (fun P => (k_keep P).1) ?_) | (refine callWith_c (YP.fr (by assumption) (by assumption)) ?_))
  k_with "eval Name" => (first | ((first | (with_reducible refine' gX_law_rows ?gF ?gy ?_ ?gk ?gx ?gg ?gd) | (with_reducible refine' gX_law_in_fours ?gF ?gy ?_ ?gk ?gx ?gg ?gd) | (with_reducible refine' gX_law_prepares ?gF ?gy ?_ ?gk ?gx ?gg ?gd) | (with_reducible refine' gX_law_sends ?gF ?gy ?_ ?gk ?gx ?gg ?gd) | (with_reducible refine' gX_Authenticator ?gF ?gy ?_ ?gk ?gx ?gg ?gd)); (case gF => assumption); (case gy => assumption); (case gk => with_unfolding_all exact rfl); (case gx => with_unfolding_all exact rfl); (case gg => with_unfolding_all exact rfl); (case gd => with_unfolding_all exact rfl)) | ((first | (with_reducible refine' bX_range ?gF ?gy ?_ ?gk ?gx ?gg ?gb ?gd) | (with_reducible refine' bX_len ?gF ?gy ?_ ?gk ?gx ?gg ?gb ?gd)); (case gF => assumption); (case gy => assumption); (case gk => with_unfolding_all exact rfl); (case gx => with_unfolding_all exact rfl); (case gg => with_unfolding_all exact rfl); (case gb => with_unfolding_all exact rfl); (case gd => with_unfolding_all exact rfl)) | ((first | (with_reducible refine' lX ?gF ?gv ?_ ?gk ?gl ?gd) | (with_reducible refine' lC ?gF ?gv ?_ ?gk ?gl ?gd)); (case gF => assumption); (case gl => with_unfolding_all exact rfl); (case gv => walk_at "NMV"); (case gk => with_unfolding_all exact rfl); (case gd => with_unfolding_all exact rfl)))
  trivial
noncomputable def textOf (ns : List Int) : Str := Txt.join "" ((cellsOf ns).map fun c => (pieceOf c).1)
noncomputable def toldOf (ns : List Int) : Str := Txt.join "" ((cellsOf ns).map fun c => (pieceOf c).2)
structure Plain (ns : List Int) : Prop where
  j1 : JoinOk "" ((cellsOf ns).map fun c => (pieceOf c).1) = true
  j2 : JoinOk "" ((cellsOf ns).map fun c => (pieceOf c).2) = true
  ok1 : Okx (textOf ns)
  ok2 : Okx (toldOf ns)
  low : ∀ k ∈ KStt.codes (textOf ns), (Txt.lower ⟨#[k.toNat]⟩).length ≤ 16
  jp : JoinOk "" (prepL (KStt.codes (textOf ns))) = true
  prep : Txt.join "" (prepL (KStt.codes (textOf ns))) = toldOf ns
  told : Told (toldOf ns) (rowsOf (toldOf ns))
theorem cells_len (ns : List Int) : (cellsOf ns).length ≤ 25 := by
  unfold cellsOf
  simp only [List.length_append, List.length_map, List.length_take, List.length_cons, List.length_nil]
  (first | lia | omega)
theorem cells_pos (ns : List Int) : ∀ c ∈ cellsOf ns, 0 ≤ c := by
  intro c hc
  unfold cellsOf at hc
  rcases List.mem_append.mp hc with hc | hc
  · obtain ⟨x, _, rfl⟩ := List.mem_map.mp hc
    (first | lia | omega)
  · have h : ∀ c ∈ ([5, 1, 0, 40, 2, 105, 1, 0, 0, 6, 3, 0, 10, 22, 7, 29, 17] : List Int), 0 ≤ c := by decide
    exact h c hc
section
variable {w : World} {A : Around} {E : Value → Shared → Prop} {s : Shared}
set_option maxHeartbeats 3000000 in
theorem law_body {h₀ : Heap} {L a ls : Addr} {cd : Value} {m : Str → Option Value} {vs : List Value} {ns : List Int} {Q : Flow → Shared → Prop} {c0 : Obj} {v0 : Option Value} (y : YP w h₀) (hr : Room A 6) (F : Fr h₀ L s.heap m) (N : News h₀ L s.heap [(L + 1, c0)]) (hc0 : c0.data = .cell v0) (hv : m "script" = some (.ref ls)) (hl : h₀.IsList ls vs.toArray) (hi : IntsAre vs ns) (hn : ns.length ≤ 63) (P : Plain ns)
    (k : ∀ m' h' tk, Fr h₀ L h' m' → Q (.ret (.bool true)) { s with heap := h', toks := tk }) :
    wpAny (model pw w) A (execs (fnBody (stAt 29)) (EL L a cd)) Q (fun _ _ => False) s := by
  refine law1 y hr F N hv hl hi hn fun D us n1 h1 tk1 hu F1 N1 => ?_
  clear F N
  refine law2 y hr F1 N1 rfl hu (cells_len ns) (cells_pos ns) fun Dp ys n2 new h2 tk2 hrel hne F2 N2 => ?_
  clear F1 N1
  have hp := pairsP_of hrel hu
  refine law3 y hr F2 N2 rfl hp (cells_len ns) P.j1 fun t3 h3 tk3 F3 N3 => ?_
  clear F2 N2
  refine law4 y hr F3 N3 ?n4 hp (cells_len ns) P.j2 fun t4 h4 tk4 F4 N4 => ?_
  case n4 => walk_at "NMV"
  clear F3 N3
  refine law5 (x := toldOf ns) (tx := t4) y hr F4 N4 ?n5 (by have := P.ok2.hi; show (toldOf ns).cps.size ≤ _; (first | lia | omega)) fun R rs nr h5 tk5 hrs hR F5 N5 => ?_
  case n5 => walk_at "NMV"
  clear F4 N4
  refine law6 (x := textOf ns) (tx := t3) (r := toldOf ns) y hr F5 N5 ?n6 P.ok1 P.ok2 (P.prep ▸ hand_prep P.ok1 P.low P.jp) fun G t6 n6 h6 tk6 hG F6 N6 => ?_
  case n6 => walk_at "NMV"
  clear F5 N5
  refine law7 (x := toldOf ns) (tx := t4) y hr F6 N6 ?n7 ?n8 P.ok2 fun h7 tk7 F7 N7 => ?_
  case n7 => walk_at "NMV"
  case n8 => walk_at "NMV"
  clear F6 N6
  have hC : ∀ q ∈ [(L + 1, c0)], q ∈ (Dp, W.listOf ys.toArray n2) :: (new ++ [(L + 1, c0)]) := fun q hq => .tail _ (List.mem_append_right _ hq)
  refine law8 (x := toldOf ns) (rows := rowsOf (toldOf ns)) (G := G) (R := R) (t := t6) (n := n6) (nr := nr) (rs := rs) (c0 := c0) y hr F7 (fun p hp => N7 p ?s8) hc0 ?gr ?gc ?rc ?g9 ?r9 hrs P.told fun m' h' tk' F' => ?_
  case s8 =>
    rcases List.mem_cons.mp hp with rfl | hp
    · exact .head _
    rcases List.mem_cons.mp hp with rfl | hp
    · exact .tail _ (.head _)
    · exact .tail _ (.tail _ (hC p hp))
  case gr => exact fun e => hG _ (.head _) e.symm
  case gc => exact hG (L + 1, c0) (.tail _ (hC _ (.head _)))
  case rc => exact hR (L + 1, c0) (hC _ (.head _))
  case g9 => walk_at "NMV"
  case r9 => walk_at "NMV"
  exact k m' h' tk' F'
end
end Mine
end P_WkT
section P_PL5
open PySem PySem.W PySem.Calls PyProof.Rows
set_option linter.unusedVariables false
set_option maxRecDepth 100000
namespace Mine
theorem mul_dot (k : Nat) : (Txt.mul (Str.ofString ".") (k : Int)).cps.toList = List.replicate k 46 := by
  unfold Txt.mul
  by_cases h1 : (k : Int) < 1
  · rw [if_pos h1]
    have : k = 0 := by (first | lia | omega)
    subst this; rfl
  · rw [if_neg h1]
    have hd : Str.ofString "." = ⟨#[46]⟩ := by decide
    by_cases h2 : ((k : Int) == 1 || (Str.ofString ".").length == 0) = true
    · rw [if_pos h2]
      have : k = 1 := by
        have e0 : ((Str.ofString ".").length == 0) = false := by decide
        rw [e0, Bool.or_false, beq_iff_eq] at h2
        (first | lia | omega)
      subst this; rw [hd]; rfl
    · rw [if_neg h2, Int.toNat_natCast, hd]
      have : ∀ (n : Nat) (acc : Array Nat), ((List.replicate n (#[46] : Array Nat)).foldl (· ++ ·) acc).toList = acc.toList ++ List.replicate n 46 := by
        intro n
        induction n with
        | zero => intro acc; simp
        | succ n ih =>
          intro acc
          rw [List.replicate_succ, List.foldl_cons, ih, List.replicate_succ]
          simp
      have := this k #[]
      simpa using this
theorem slice1 (r : Str) : ((Txt.slice r none (some 1) == Str.ofString ".") = true) ↔ (tl r).head? = some 46 := by
  have hd : Str.ofString "." = ⟨#[46]⟩ := by decide
  cases hr : r.cps.toList with
  | nil =>
    have h0 : (Txt.slice r none (some 1)).length ≤ r.length := Txt.slice_le r none (some 1)
    have hl : r.length = 0 := by
      show r.cps.size = 0
      rw [← Array.length_toList, hr]; rfl
    have e : (tl r).head? = none := by unfold tl; rw [hr]; rfl
    rw [e, beq_iff_eq]
    constructor
    · intro h; rw [h, hd] at h0
      have h1 : (⟨#[46]⟩ : Str).length = 1 := rfl
      (first | lia | omega)
    · intro h; cases h
  | cons c l =>
    have hc := slice_closes_to (x := r) (j := 1) ⟨by decide, by rw [hr, List.length_cons]; (first | lia | omega)⟩
    rw [beq_iff_eq] at hc
    rw [hc, hr, hd]
    show (((⟨#[c]⟩ : Str) == ⟨#[46]⟩) = true) ↔ (tl r).head? = some 46
    rw [str1_eq c 46 rfl]
    unfold tl
    rw [hr]
    simp
theorem dotRow_list (k : Nat) (r : Str) : tl (dotRow (k : Int) r) = dk k (tl r) := by
  unfold dotRow dk
  by_cases h : (Txt.slice r none (some 1) == Str.ofString ".") = true
  · rw [if_pos h, if_pos ((slice1 r).mp h)]
    show (_ ++ _ : Str).cps.toList = _
    rw [str_app, mul_dot]; rfl
  · rw [if_neg h, if_neg (fun e => h ((slice1 r).mpr e))]
theorem sent_list (k : Nat) (rows : List Str) : tl (sentOf (k : Int) rows) = joinL ((rows.map tl).map (dk k)) := by
  unfold sentOf
  show (Txt.join _ _).cps.toList = _
  rw [join_crlf, List.map_map, List.map_map]
  congr 1
  refine List.map_congr_left fun r _ => ?_
  exact dotRow_list k r
theorem tx_list (x : Str) : ∀ k, tl (Tx x (k + 1)) = joinL (((rowsOf x).map tl).map (dk (k + 1)))
  | 0 => by
    show (dotted (crlfed x)).cps.toList = _
    rw [dotted_list, crlfed_list]
    have h := (rows_all (fun _ => True) x (fun _ _ => trivial)).1
    have e := rows_join x
    unfold tl at e
    rw [← e]
    refine dl_joinL fun r hr => ?_
    obtain ⟨q, hq, rfl⟩ := List.mem_map.mp hr
    exact (h q hq).1
  | k + 1 => by
    show (dotted (crlfed (Tx x (k + 1)))).cps.toList = _
    rw [dotted_list, crlfed_list]
    have ih := tx_list x k
    unfold tl at ih
    rw [ih]
    have h := (rows_all (fun _ => True) x (fun _ _ => trivial)).1
    have hN : ∀ r ∈ ((rowsOf x).map (fun s => s.cps.toList)).map (dk (k + 1)), NN r := by
      intro r hr
      obtain ⟨q, hq, rfl⟩ := List.mem_map.mp hr
      obtain ⟨z, hz, rfl⟩ := List.mem_map.mp hq
      exact dk_NN (h z hz).1
    rw [crl_joinL hN, dl_joinL hN, List.map_map]
    congr 1
    refine List.map_congr_left fun r _ => ?_
    exact dk_dk (k + 1) r
theorem sent_tx (x : Str) (k : Nat) (h : 1 ≤ k) : sentOf (k : Int) (rowsOf x) = Tx x k := by
  refine str_ext ?_
  obtain ⟨j, rfl⟩ : ∃ j, k = j + 1 := ⟨k - 1, by (first | lia | omega)⟩
  exact (sent_list _ _).trans (tx_list x j).symm
/-- octets -/
noncomputable def ob (c : Nat) : List Int := (PySem.Str.utf8Of c).map fun u => (u.toNat : Int)
noncomputable def OB (l : List Nat) : List Int := l.flatMap ob
theorem O_eq (x : Str) : O x = OB (tl x) := by
  show (encB _ x).toList.map _ = _
  rw [enc_toList]
  unfold utf8L OB ob tl
  rw [List.map_flatMap]
theorem OB_app (a b : List Nat) : OB (a ++ b) = OB a ++ OB b := by simp [OB]
theorem OB_dots (k : Nat) : OB (List.replicate k 46) = List.replicate k 46 := by
  induction k with
  | zero => rfl
  | succ k ih =>
    rw [List.replicate_succ]
    show ob 46 ++ OB (List.replicate k 46) = _
    rw [ih]; rfl
theorem OB_crlf (l : List Nat) : OB (13 :: 10 :: l) = 13 :: 10 :: OB l := rfl
theorem OB_46 (l : List Nat) : OB (46 :: l) = 46 :: OB l := rfl
theorem foursI_at {A B : List Int} (h : A.length % 3 = 0) : insL (foursI (A ++ B)) (((A.length + 2) / 3 * 4 : Nat) : Int) = foursI (A ++ 46 :: 46 :: 46 :: B) := by
  have hl : (foursI A).length = (A.length + 2) / 3 * 4 := by rw [foursI_len]; (first | lia | omega)
  unfold insL
  rw [Int.toNat_natCast, ← hl, foursI_app A B h, foursI_app A _ h, List.take_left, List.drop_left]
  show foursI A ++ [76, 105, 52, 117] ++ foursI B = foursI A ++ (b64c (46 / 4) :: b64c (46 % 4 * 16 + 46 / 16) :: b64c (46 % 16 * 4 + 46 / 64) :: b64c (46 % 64) :: foursI B)
  have e : [b64c (46 / 4), b64c (46 % 4 * 16 + 46 / 16), b64c (46 % 16 * 4 + 46 / 64), b64c (46 % 64)] = [76, 105, 52, 117] := by decide
  injection e with e1 e
  injection e with e2 e
  injection e with e3 e
  injection e with e4 e
  rw [e1, e2, e3, e4, List.append_assoc]
  rfl
theorem ins_dots (A W : List Int) : insL (foursI (A ++ 46 :: 46 :: W)) ((((A.length : Nat) : Int) + 2) / 3 * 4) = foursI (A ++ 46 :: 46 :: 46 :: 46 :: 46 :: W) := by
  have hI : (((A.length : Nat) : Int) + 2) / 3 * 4 = (((A.length + 2) / 3 * 4 : Nat) : Int) := by (first | lia | omega)
  rw [hI]
  have h3 : A.length % 3 = 0 ∨ A.length % 3 = 1 ∨ A.length % 3 = 2 := by (first | lia | omega)
  rcases h3 with h | h | h
  · exact foursI_at h
  · have := foursI_at (A := A ++ [46, 46]) (B := W) (by rw [List.length_append]; simp only [List.length_cons, List.length_nil]; (first | lia | omega))
    have hl : ((A ++ [46, 46]).length + 2) / 3 * 4 = (A.length + 2) / 3 * 4 := by
      rw [List.length_append]; simp only [List.length_cons, List.length_nil]; (first | lia | omega)
    rw [hl] at this
    simpa using this
  · have := foursI_at (A := A ++ [46]) (B := 46 :: W) (by rw [List.length_append]; simp only [List.length_cons, List.length_nil]; (first | lia | omega))
    have hl : ((A ++ [46]).length + 2) / 3 * 4 = (A.length + 2) / 3 * 4 := by
      rw [List.length_append]; simp only [List.length_cons, List.length_nil]; (first | lia | omega)
    rw [hl] at this
    simpa using this
theorem rep_comm (j : Nat) (w : List Int) : List.replicate j (46 : Int) ++ 46 :: w = 46 :: (List.replicate j 46 ++ w) := by
  induction j with
  | zero => rfl
  | succ j ih => rw [List.replicate_succ, List.cons_append, ih]; rfl
/-- where the law puts Li4u: the row's dots -/
theorem ins_row (A : List Int) (j : Nat) (hj : 1 ≤ j) (r : List Nat) (hr : r.head? = some 46) (tail : List Int) : insL (foursI (A ++ (OB (dk j r) ++ tail))) ((((A.length : Nat) : Int) + 2) / 3 * 4) = foursI (A ++ (OB (dk (j + 3) r) ++ tail)) := by
  obtain ⟨w, rfl⟩ : ∃ w, r = 46 :: w := by
    cases r with
    | nil => cases hr
    | cons c w => simp at hr; exact ⟨w, by rw [hr]⟩
  obtain ⟨i, rfl⟩ : ∃ i, j = i + 1 := ⟨j - 1, by (first | lia | omega)⟩
  have e : ∀ n, OB (dk (n + 1) (46 :: w)) ++ tail = 46 :: 46 :: (List.replicate n 46 ++ (OB w ++ tail)) := by
    intro n
    unfold dk
    rw [if_pos (by rfl), OB_app, OB_dots, OB_46, List.append_assoc, List.cons_append, rep_comm, List.replicate_succ]
    rfl
  rw [show i + 1 + 3 = (i + 3) + 1 by (first | lia | omega), e, e]
  have := ins_dots A (List.replicate i 46 ++ (OB w ++ tail))
  rw [this]
  rfl
noncomputable def placesF (j : Nat) : Int → List Str → List Int
  | _, [] => []
  | b, r :: rs => if (tl r).head? = some 46 then (b + 2) / 3 * 4 :: placesF j (b + (((O r).length : Int) + 2 + (j : Int))) rs else placesF j (b + (((O r).length : Int) + 2)) rs
theorem places_eq (j : Nat) : ∀ (rows : List Str) (P : List Int × Int), (rows.foldl (stepP ((j : Int) + 3)) P).1 = P.1 ++ placesF j P.2 rows
  | [], P => by simp [placesF]
  | r :: rs, P => by
    rw [List.foldl_cons, places_eq j rs]
    unfold stepP
    rw [← O_len]
    by_cases h : (tl r).head? = some 46
    · rw [if_pos ((slice1 r).mpr h)]
      show P.1 ++ [(P.2 + 2) / 3 * 4] ++ placesF j _ rs = P.1 ++ (if (tl r).head? = some 46 then _ else _)
      rw [if_pos h, List.append_assoc]
      rw [show ((j : Int) + 3 - 3) = (j : Int) by (first | lia | omega)]
      rfl
    · rw [if_neg (fun e => h ((slice1 r).mp e))]
      show P.1 ++ placesF j _ rs = P.1 ++ (if (tl r).head? = some 46 then _ else _)
      rw [if_neg h]
noncomputable def JK (k : Nat) (rows : List Str) : List Nat := joinL ((rows.map tl).map (dk k))
theorem put_rows (j : Nat) (hj : 1 ≤ j) : ∀ (rows : List Str) (A : List Int), (placesF j (A.length : Int) rows).reverse.foldl insL (foursI (A ++ OB (JK j rows))) = foursI (A ++ OB (JK (j + 3) rows))
  | [], A => rfl
  | r :: rs, A => by
    -- what stands behind the row
    have inner : ∃ tail : List Int, OB (JK (j + 3) (r :: rs)) = OB (dk (j + 3) (tl r)) ++ tail ∧ (placesF j ((A.length : Int) + (((OB (dk j (tl r))).length : Int) + 2)) rs).reverse.foldl insL (foursI (A ++ OB (JK j (r :: rs)))) = foursI (A ++ (OB (dk j (tl r)) ++ tail)) := by
      cases rs with
      | nil =>
        refine ⟨[], ?_, ?_⟩
        · rw [List.append_nil]; rfl
        · rw [List.append_nil]; rfl
      | cons r2 rs2 =>
        have hJ : ∀ k, OB (JK k (r :: r2 :: rs2)) = OB (dk k (tl r)) ++ (13 :: 10 :: OB (JK k (r2 :: rs2))) := by
          intro k
          show OB (dk k (tl r) ++ 13 :: 10 :: JK k (r2 :: rs2)) = _
          rw [OB_app, OB_crlf]
        refine ⟨13 :: 10 :: OB (JK (j + 3) (r2 :: rs2)), hJ (j + 3), ?_⟩
        have ih := put_rows j hj (r2 :: rs2) (A ++ (OB (dk j (tl r)) ++ [13, 10]))
        have hl : (((A ++ (OB (dk j (tl r)) ++ [13, 10])).length : Nat) : Int) = (A.length : Int) + (((OB (dk j (tl r))).length : Int) + 2) := by
          simp only [List.length_append, List.length_cons, List.length_nil]; (first | lia | omega)
        rw [hl] at ih
        rw [hJ j]
        have a1 : ∀ Z : List Int, A ++ (OB (dk j (tl r)) ++ [13, 10]) ++ Z = A ++ (OB (dk j (tl r)) ++ 13 :: 10 :: Z) := fun Z => by simp
        rw [a1, a1] at ih
        exact ih
    obtain ⟨tail, e1, e2⟩ := inner
    rw [e1]
    have hO : OB (tl r) = O r := (O_eq r).symm
    by_cases h : (tl r).head? = some 46
    · have hlen : (((OB (dk j (tl r))).length : Nat) : Int) = ((O r).length : Int) + (j : Int) := by
        unfold dk
        rw [if_pos h, OB_app, OB_dots, List.length_append, List.length_replicate, hO]
        (first | lia | omega)
      have ep : placesF j (A.length : Int) (r :: rs) = ((A.length : Int) + 2) / 3 * 4 :: placesF j ((A.length : Int) + (((OB (dk j (tl r))).length : Int) + 2)) rs := by
        show (if (tl r).head? = some 46 then _ else _) = _
        rw [if_pos h, hlen]
        congr 2
        (first | lia | omega)
      rw [ep, List.reverse_cons, List.foldl_append, e2]
      exact ins_row A j hj (tl r) h tail
    · have hd : ∀ k, dk k (tl r) = tl r := fun k => by unfold dk; rw [if_neg h]
      have ep : placesF j (A.length : Int) (r :: rs) = placesF j ((A.length : Int) + (((OB (dk j (tl r))).length : Int) + 2)) rs := by
        show (if (tl r).head? = some 46 then _ else _) = _
        rw [if_neg h, hd, hO]
      rw [ep, e2, hd, hd]
theorem put_tx (x : Str) (k : Nat) (h4 : 4 ≤ k) : (runP (k : Int) (rowsOf x)).1.reverse.foldl insL (foursI (O (Tx x (k - 3)))) = foursI (O (Tx x k)) := by
  obtain ⟨j, rfl⟩ : ∃ j, k = j + 1 + 3 := ⟨k - 4, by (first | lia | omega)⟩
  have e1 : (runP ((j + 1 + 3 : Nat) : Int) (rowsOf x)).1 = placesF (j + 1) 0 (rowsOf x) := by
    have := places_eq (j + 1) (rowsOf x) ([], 0)
    rw [List.nil_append] at this
    rw [← this]
    unfold runP
    congr 3
  rw [e1, show j + 1 + 3 - 3 = j + 1 by (first | lia | omega), O_eq, O_eq, tx_list, show j + 1 + 3 = (j + 3) + 1 by (first | lia | omega), tx_list]
  have := put_rows (j + 1) (by (first | lia | omega)) (rowsOf x) []
  simpa [JK] using this
end Mine
end P_PL5
section P_PL6
open PySem PySem.W PySem.Calls PyProof.Rows
set_option linter.unusedVariables false
set_option maxRecDepth 100000
namespace Mine
theorem crl_le : ∀ (b : Bool) (l : List Nat), (crl b l).length ≤ 2 * l.length
  | b, [] => Nat.le_refl _
  | b, c :: l => by
    have h1 := crl_le true l
    have h2 := crl_le false l
    unfold crl
    split
    · simp only [List.length_cons]; (first | lia | omega)
    · split
      · split <;> (simp only [List.length_cons]; (first | lia | omega))
      · simp only [List.length_cons]; (first | lia | omega)
theorem crl_pos {l : List Nat} (h : 1 ≤ l.length) : 1 ≤ (crl false l).length := by
  cases l with
  | nil => simp at h
  | cons c l =>
    unfold crl
    split
    · simp
    · split
      · rw [if_neg (by decide)]; simp
      · simp
theorem dl_ge : ∀ (b : Bool) (l : List Nat), l.length ≤ (dl b l).length ∧ (dl b l).length ≤ 2 * l.length
  | b, [] => ⟨Nat.le_refl _, Nat.le_refl _⟩
  | b, c :: l => by
    have h2 := dl_ge false l
    have h3 := dl_ge (c == 10) l
    unfold dl
    split <;> (simp only [List.length_cons]; (first | lia | omega))
theorem crl_mem : ∀ (b : Bool) (l : List Nat) (c : Nat), c ∈ crl b l → c ∈ l ∨ c = 13 ∨ c = 10
  | b, [], c, h => nomatch h
  | b, d :: l, c, h => by
    have h1 := crl_mem true l c
    have h2 := crl_mem false l c
    unfold crl at h
    rw [List.mem_cons]
    split at h
    · simp only [List.mem_cons] at h
      rcases h with h | h | h
      · exact .inr (.inl h)
      · exact .inr (.inr h)
      · rcases h1 h with h | h
        · exact .inl (.inr h)
        · exact .inr h
    · split at h
      · split at h
        · rcases h2 h with h | h
          · exact .inl (.inr h)
          · exact .inr h
        · simp only [List.mem_cons] at h
          rcases h with h | h | h
          · exact .inr (.inl h)
          · exact .inr (.inr h)
          · rcases h2 h with h | h
            · exact .inl (.inr h)
            · exact .inr h
      · simp only [List.mem_cons] at h
        rcases h with h | h
        · exact .inl (.inl h)
        · rcases h2 h with h | h
          · exact .inl (.inr h)
          · exact .inr h
theorem dl_mem : ∀ (b : Bool) (l : List Nat) (c : Nat), c ∈ dl b l → c ∈ l ∨ c = 46
  | b, [], c, h => nomatch h
  | b, d :: l, c, h => by
    have h2 := dl_mem false l c
    have h3 := dl_mem (d == 10) l c
    unfold dl at h
    rw [List.mem_cons]
    split at h
    · simp only [List.mem_cons] at h
      rcases h with h | h | h
      · exact .inr h
      · exact .inr h
      · rcases h2 h with h | h
        · exact .inl (.inr h)
        · exact .inr h
    · simp only [List.mem_cons] at h
      rcases h with h | h
      · exact .inl (.inl h)
      · rcases h3 h with h | h
        · exact .inl (.inr h)
        · exact .inr h
noncomputable def Gd (c : Nat) : Prop := c < 0x110000 ∧ PySem.Str.isSurrogate c = false
theorem tx_good {x : Str} (h : ∀ c ∈ tl x, Gd c) : ∀ k, ∀ c ∈ tl (Tx x k), Gd c
  | 0 => h
  | k + 1 => by
    intro c hc
    have hc' : c ∈ dl true (crl false (tl (Tx x k))) := by
      have e : tl (Tx x (k + 1)) = dl true (crl false (tl (Tx x k))) := by
        show (dotted (crlfed (Tx x k))).cps.toList = _
        rw [dotted_list, crlfed_list]; rfl
      rwa [e] at hc
    rcases dl_mem _ _ _ hc' with h1 | h1
    · rcases crl_mem _ _ _ h1 with h2 | h2 | h2
      · exact tx_good h k c h2
      · subst h2; exact ⟨by decide, by decide⟩
      · subst h2; exact ⟨by decide, by decide⟩
    · subst h1; exact ⟨by decide, by decide⟩
theorem tx_pos {x : Str} (h : 1 ≤ (tl x).length) : ∀ k, 1 ≤ (tl (Tx x k)).length
  | 0 => h
  | k + 1 => by
    have e : tl (Tx x (k + 1)) = dl true (crl false (tl (Tx x k))) := by
      show (dotted (crlfed (Tx x k))).cps.toList = _
      rw [dotted_list, crlfed_list]; rfl
    rw [e]
    have h1 := crl_pos (tx_pos h k)
    have h2 := dl_ge true (crl false (tl (Tx x k)))
    (first | lia | omega)
theorem dk_len (k : Nat) (r : List Nat) : (dk k r).length ≤ r.length + k := by
  unfold dk
  split
  · rw [List.length_append, List.length_replicate]; (first | lia | omega)
  · (first | lia | omega)
theorem joinL_dk (k : Nat) : ∀ rs : List (List Nat), (joinL (rs.map (dk k))).length ≤ (joinL rs).length + k * rs.length
  | [] => Nat.zero_le _
  | [x] => by
    show (dk k x).length ≤ x.length + k * 1
    have := dk_len k x
    (first | lia | omega)
  | x :: y :: r => by
    have ih := joinL_dk k (y :: r)
    have := dk_len k x
    show (dk k x ++ 13 :: 10 :: joinL ((y :: r).map (dk k))).length ≤ (x ++ 13 :: 10 :: joinL (y :: r)).length + k * ((y :: r).length + 1)
    rw [Nat.mul_add]
    simp only [List.length_append, List.length_cons] at ih ⊢
    (first | lia | omega)
theorem joinL_mem : ∀ {rs : List (List Nat)} {r : List Nat}, r ∈ rs → r.length ≤ (joinL rs).length
  | [x], r, h => by rw [List.mem_singleton.mp h]; exact Nat.le_refl _
  | x :: y :: rs, r, h => by
    show r.length ≤ (x ++ 13 :: 10 :: joinL (y :: rs)).length
    simp only [List.length_append, List.length_cons]
    rcases List.mem_cons.mp h with rfl | h
    · (first | lia | omega)
    · have := joinL_mem h
      (first | lia | omega)
theorem tx_le {x : Str} (h : (tl x).length ≤ 75) (k : Nat) (hk : k ≤ 6) : (tl (Tx x k)).length ≤ 700 := by
  cases k with
  | zero => exact Nat.le_trans h (by decide)
  | succ k =>
    rw [tx_list]
    have h1 := joinL_dk (k + 1) ((rowsOf x).map tl)
    rw [rows_join] at h1
    have h2 := crl_le false (tl x)
    have h3 := (rows_all (fun _ => True) x (fun _ _ => trivial)).2
    have h4 : x.cps.size = (tl x).length := (Array.length_toList ..).symm
    rw [List.length_map] at h1
    have h5 : (k + 1) * (rowsOf x).length ≤ 6 * 76 := Nat.mul_le_mul (by (first | lia | omega)) (by (first | lia | omega))
    (first | lia | omega)
theorem size_tl (x : Str) : x.cps.size = (tl x).length := (Array.length_toList ..).symm
theorem sub_of {x : Str} (h : (tl x).length ≤ 700) : SubOk x := by
  have h1 := crl_le false (tl x)
  have h2 := dl_ge true (crl false (tl x))
  have e : (crlfed x).cps.size = (crl false (tl x)).length := by rw [size_tl]; unfold tl; rw [crlfed_list]
  refine ⟨by rw [size_tl]; (first | lia | omega), joinOk_of ?_, by rw [e]; (first | lia | omega), joinOk_of ?_⟩
  · rw [crlfL_len]
    show (crl false (tl x)).length + _ * 0 ≤ _
    (first | lia | omega)
  · rw [dotL_len, crlfed_list]
    show (dl true (crl false (tl x))).length + _ * 0 ≤ _
    (first | lia | omega)
theorem okx_of {x : Str} (h1 : 1 ≤ (tl x).length) (h2 : (tl x).length ≤ 700) (h3 : ∀ c ∈ tl x, Gd c) : Okx x := ⟨h3, by rw [size_tl]; (first | lia | omega), by rw [size_tl]; (first | lia | omega)⟩
theorem sum_le {B : Nat} : ∀ {ys : List Str}, (∀ y ∈ ys, y.length ≤ B) → (ys.map (·.length)).sum ≤ ys.length * B
  | [], _ => Nat.zero_le _
  | y :: ys, h => by
    have := sum_le fun z hz => h z (.tail _ hz)
    have h0 := h y (.head _)
    simp only [List.map_cons, List.sum_cons, List.length_cons, Nat.succ_mul]
    (first | lia | omega)
theorem told_of {x : Str} (h1 : 1 ≤ (tl x).length) (h2 : (tl x).length ≤ 75) (h3 : ∀ c ∈ tl x, Gd c) : Told x (rowsOf x) := by
  have hr := rows_all Gd x h3
  have hn : (rowsOf x).length ≤ 76 := by have := hr.2; have := size_tl x; (first | lia | omega)
  have hlen : ∀ r ∈ rowsOf x, (tl r).length ≤ 150 := by
    intro r hrm
    have := joinL_mem (rs := (rowsOf x).map tl) (r := tl r) (List.mem_map.mpr ⟨r, hrm, rfl⟩)
    rw [rows_join] at this
    have := crl_le false (tl x)
    (first | lia | omega)
  refine ⟨fun k hk => okx_of (tx_pos h1 k) (tx_le h2 k hk) (tx_good h3 k), fun k hk => sub_of (tx_le h2 k (by (first | lia | omega))), by (first | lia | omega), fun r hrm => ⟨?_, fun c hc => ((hr.1 r hrm).2 c hc).2⟩, fun k a b => sent_tx x k a, fun k a b => joinOk_of ?_, fun k a b => put_tx x k a⟩
  · have := hlen r hrm
    show r.cps.size ≤ _
    rw [size_tl]; (first | lia | omega)
  · have hs := sum_le (B := 160) (ys := (rowsOf x).map (dotRow (k : Int))) (by
      intro y hy
      obtain ⟨r, hrm, rfl⟩ := List.mem_map.mp hy
      show (dotRow (k : Int) r).cps.size ≤ _
      rw [size_tl, dotRow_list]
      have := dk_len k (tl r)
      have := hlen r hrm
      (first | lia | omega))
    rw [List.length_map] at hs ⊢
    have h5 : (rowsOf x).length * 160 ≤ 76 * 160 := Nat.mul_le_mul_right _ hn
    have h6 : (rowsOf x).length * (Str.ofString "\r\n").length = (rowsOf x).length * 2 := rfl
    rw [h6]
    (first | lia | omega)
theorem flat_le {f : Int → List Nat} : ∀ {cs : List Int}, (∀ c ∈ cs, (f c).length ≤ 3) → (cs.flatMap f).length ≤ 3 * cs.length
  | [], _ => Nat.le_refl _
  | c :: cs, h => by
    have := flat_le fun z hz => h z (.tail _ hz)
    have h0 := h c (.head _)
    rw [List.flatMap_cons, List.length_append, List.length_cons]
    (first | lia | omega)
theorem flat_pos {f : Int → List Nat} {c : Int} (h : 1 ≤ (f c).length) : ∀ {cs : List Int}, c ∈ cs → 1 ≤ (cs.flatMap f).length
  | d :: cs, hm => by
    rw [List.flatMap_cons, List.length_append]
    rcases List.mem_cons.mp hm with rfl | hm
    · (first | lia | omega)
    · have := flat_pos h hm; (first | lia | omega)
theorem text_list (ns : List Int) : tl (textOf ns) = (cellsOf ns).flatMap fun c => tl (pieceOf c).1 := by
  show (Txt.join "" _).cps.toList = _
  rw [join_toList, List.flatMap_map]; rfl
theorem told_list (ns : List Int) : tl (toldOf ns) = (cellsOf ns).flatMap fun c => tl (pieceOf c).2 := by
  show (Txt.join "" _).cps.toList = _
  rw [join_toList, List.flatMap_map]; rfl
theorem five_in (ns : List Int) : (5 : Int) ∈ cellsOf ns := List.mem_append_right _ (.head _)
theorem good1_of {c : Nat} (h : good1 c = true) : Gd c ∧ (Txt.lower ⟨#[c]⟩).length ≤ 16 := by
  unfold good1 at h
  simp only [Bool.and_eq_true, decide_eq_true_eq, Bool.not_eq_true'] at h
  exact ⟨⟨h.1.1, h.1.2⟩, h.2⟩
theorem good2_of {c : Nat} (h : good2 c = true) : Gd c := by
  unfold good2 at h
  simp only [Bool.and_eq_true, decide_eq_true_eq, Bool.not_eq_true'] at h
  exact ⟨h.1, h.2⟩
theorem plain (ns : List Int) : Plain ns := by
  have hc := cells_len ns
  have t1 : (tl (textOf ns)).length ≤ 75 := by
    rw [text_list]
    have := flat_le (f := fun c => tl (pieceOf c).1) (cs := cellsOf ns) fun c _ => by have := (piece_ok c).z1; rw [size_tl] at this; exact this
    (first | lia | omega)
  have t2 : (tl (toldOf ns)).length ≤ 75 := by
    rw [told_list]
    have := flat_le (f := fun c => tl (pieceOf c).2) (cs := cellsOf ns) fun c _ => by have := (piece_ok c).z2; rw [size_tl] at this; exact this
    (first | lia | omega)
  have p1 : 1 ≤ (tl (textOf ns)).length := by
    rw [text_list]; exact flat_pos (c := 5) (by decide) (five_in ns)
  have p2 : 1 ≤ (tl (toldOf ns)).length := by
    rw [told_list]; exact flat_pos (c := 5) (by decide) (five_in ns)
  have g1 : ∀ c ∈ tl (textOf ns), good1 c = true := by
    intro c hcm
    rw [text_list] at hcm
    obtain ⟨d, _, hd⟩ := List.mem_flatMap.mp hcm
    exact (piece_ok d).g1 c hd
  have g2 : ∀ c ∈ tl (toldOf ns), good2 c = true := by
    intro c hcm
    rw [told_list] at hcm
    obtain ⟨d, _, hd⟩ := List.mem_flatMap.mp hcm
    exact (piece_ok d).g2 c hd
  have hprep : (Txt.join "" (prepL (KStt.codes (textOf ns)))).cps.toList = tl (toldOf ns) := by
    rw [prep_toList]
    show (tl (textOf ns)).flatMap pf = _
    rw [text_list, told_list, List.flatMap_assoc]
    congr 1
    funext c
    exact (piece_ok c).fold
  have jn : ∀ ys : List Str, (Txt.join "" ys).cps.toList.length ≤ 75 → JoinOk "" ys = true := by
    intro ys h
    refine joinOk_of ?_
    rw [cat_len]
    rw [join_toList] at h
    show (catL ys).length + _ * 0 ≤ _
    unfold catL
    (first | lia | omega)
  refine ⟨jn _ t1, jn _ t2, okx_of p1 (by (first | lia | omega)) fun c h => (good1_of (g1 c h)).1, okx_of p2 (by (first | lia | omega)) fun c h => good2_of (g2 c h), ?_, jn _ (by rw [hprep]; exact t2), str_ext hprep, told_of p2 t2 fun c h => good2_of (g2 c h)⟩
  intro k hk
  obtain ⟨c, hcm, rfl⟩ := List.mem_map.mp hk
  rw [Int.toNat_natCast]
  exact (good1_of (g1 c hcm)).2
end Mine
end P_PL6
open PySem PySem.W PySem.Calls PyProof.Rows
set_option linter.unusedVariables false
set_option maxRecDepth 100000
namespace Mine
theorem some_inj_pair {α β : Type} {o : Option (α × β)} {a a' : α} {b b' : β} (h : o = some (a, b)) (h' : o = some (a', b')) : a' = a ∧ b' = b := by
  rw [h] at h'; injection h' with h'; injection h' with h1 h2; exact ⟨h1.symm, h2.symm⟩
theorem post_ok (args : List WData) : (OpenRow.toRowW (OpenLaw.row PySem.Challenge.rw_ta0038_01)).claim.post args (.bool true) args = true := by with_unfolding_all exact rfl
set_option maxHeartbeats 8000000 in
theorem walkMain (d : DefRec) (kwd : List (Str × Expr)) (hdef : defOf qv ("law" : Str) = some (d, kwd)) : WalkO qv loosez XPz YPz (OpenRow.toRowW (OpenLaw.row PySem.Challenge.rw_ta0038_01)) d kwd fun f vs => PySem.call f vs := by
  obtain ⟨h1, h2⟩ := some_inj_pair (by rfl) hdef
  subst h1; subst h2
  clear hdef
  intro w s₀ s₁ mg mb G Y fa o pm cd doc dV kV ho hd hcd hD hmg hg args vals as hpre hlay hrd hwl hlo
  refine Ground.open G ?_
  intro T B D TE TW
  try (refine guard_noD D (by decide +kernel) ?_; clear D)
  obtain ⟨_, _, M⟩ := bmod_of_top T
  have TA := at_of_top T
  clear hmg
  wrow_args hpre hlay hrd hwl hlo
  all_goals first | refine callC_kw (enter_call ?_) | refine enter_call ?_ | refine callC_kw (enter_callW ?_) | refine enter_callW ?_
  w_top on
  try refine codeAny_mono ?_ (fun _ _ g => GoodW.toG g)
  have K0 := below_caller (Top.heap T)
  w_call any ho hd hcd hD T F
  clear hd TA
  k_drop
  rename IntsAre _ _ => hI
  rename Heap.IsList _ _ _ => hL
  rename Fr _ _ _ _ => F0
  rename News _ _ _ _ => N0
  rename ¬ _ < ((List.length _ : Nat) : Int) => h63
  rename _ = Data.cell _ => hcell
  refine wpAny_mono (law_body (h₀ := s₁.heap) Y (Room.deep (k := 6) ⟨rfl, by decide, by decide⟩) F0 N0 hcell (by rfl) hL hI (by omega) (plain _) (fun m' h' tk F' => ?_)) (fun _ _ x => x) (fun _ _ e => e.elim)
  exact goodW_bool F' hg (fun _ => rfl) (post_ok _)
end Mine
theorem PySem.Challenge.cw_ta0038_01_holds : PySem.Challenge.rw_ta0038_01.Holds := by
  exact Mine.glue Mine.walkMain
