import PyProof.Rows.All
import Wide.All
import OpenK.AllK
import Wide.FinOn
import Open.Tops
import PyProof.ExcBaseAll.Exception
import Lean
import PySem.Challenge.RW_ip0004_01
open PySem PySem.W PyProof.Rows
set_option Elab.async false
set_option maxRecDepth 100000
set_option linter.all false
namespace Mine
section
variable {tb : String → Option Builtin} {p : Program} {w : World} {n₀ : Nat} {ann : Option Value} {b : Nat}
theorem segRun_mono (k : Nat) : ∀ {n : Nat} {s : Shared} {t : Thread} {r : Flow × Shared × Code × Pos},
    segRun tb p w n₀ ann b n s t = some r → segRun tb p w n₀ ann b (n + k) s t = some r
  | 0, _, _, _, h => by simp [segRun] at h
  | n + 1, s, t, r, h => by
    rw [show n + 1 + k = n + k + 1 by omega]; unfold segRun at h ⊢
    split at h
    · exact h
    · split at h
      · cases h
      · split at h
        · exact segRun_mono k h
        · cases h
theorem segRun_le {n m : Nat} (hnm : n ≤ m) {s : Shared} {t : Thread} {r : Flow × Shared × Code × Pos}
    (h : segRun tb p w n₀ ann b n s t = some r) : segRun tb p w n₀ ann b m s t = some r := by
  obtain ⟨k, rfl⟩ := Nat.exists_eq_add_of_le hnm; exact segRun_mono k h
theorem segRun_step {n : Nat} {s s' : Shared} {t t' : Thread} {r : Flow × Shared × Code × Pos} (he : endAt b t = none) (hk : stepOk n₀ ann t = true)
    (hs : step (denote tb) p w s t = .go s' t') (h : segRun tb p w n₀ ann b n s' t' = some r) : segRun tb p w n₀ ann b (n + 1) s t = some r := by
  unfold segRun; rw [he, hk, hs]; exact h
section inner
variable {α : Type} {B : List Frame} {K' : α → Sem Fin} {H' : Value → Sem Fin} {gd : Bool → Bool} {lv : List Value → List Value} {res : α → Flow}
theorem seg_in (hB : splitAtGen B = none) (hb : b < B.length) : ∀ (n : Nat) (s : Shared) (t t' : Thread) (f : Flow) (s' : Shared) (c' : Code) (p' : Pos),
    Rel2 (fun a => .pure (.done (res a))) K' deadEnd H' gd lv B t t' → segRun tb p w n₀ ann B.length n s t = some (f, s', c', p') →
    ∃ a, res a = f ∧ ∀ N r, segRun tb p w n₀ ann b N s' ⟨K' a, c', p', B⟩ = some r → segRun tb p w n₀ ann b (n + N) s t' = some r := by
  intro n
  induction n with
  | zero => intro s t t' f s' c' p' _ h; simp [segRun] at h
  | succ n ih =>
    rintro s ⟨cur, code, pos, st⟩ ⟨cur', code', pos', st'⟩ f s' c' p' ⟨e1, e2, R⟩ h
    dsimp only at e1 e2 R
    subst e1 e2; unfold segRun at h
    cases he : endAt B.length ⟨cur, code, pos, st⟩ with
    | some g =>
      rw [he] at h; simp only [Option.some.injEq, Prod.mk.injEq] at h; obtain ⟨rfl, rfl, rfl, rfl⟩ := h
      rcases R with ⟨rfl, rfl, x, rfl, rfl⟩ | ⟨_, F⟩
      · cases x with
        | pure a =>
          simp only [endAt, Sem.wrap, beq_self_eq_true, Option.some.injEq] at he; exact ⟨a, he, fun N r hN => segRun_le (Nat.le_add_left N (n + 1)) hN⟩
        | _ => simp [endAt, Sem.wrap] at he
      · have hne : (st.length == B.length) = false := beq_eq_false_iff_ne.mpr (Nat.ne_of_gt F.longer.1)
        simp only [endAt, hne] at he
        cases he
    | none =>
      rw [he] at h
      dsimp only at h
      cases hk : stepOk n₀ ann ⟨cur, code, pos, st⟩ with
      | false => rw [hk] at h; cases h
      | true =>
        rw [hk] at h
        dsimp only at h
        cases hs : step (denote tb) p w s ⟨cur, code, pos, st⟩ with
        | halt o s₂ => rw [hs] at h; cases h
        | go s₂ t₂ =>
          rw [hs] at h
          dsimp only at h
          have key : stepOk n₀ ann ⟨cur', code, pos, st'⟩ = true ∧ endAt b ⟨cur', code, pos, st'⟩ = none ∧
              ∃ t₂', step (denote tb) p w s ⟨cur', code, pos, st'⟩ = .go s₂ t₂' ∧ Rel2 (fun a => .pure (.done (res a))) K' deadEnd H' gd lv B t₂ t₂' := by
            rcases R with ⟨rfl, rfl, x, rfl, rfl⟩ | ⟨rfl, F⟩
            · have hp : ∀ a, x ≠ .pure a := by
                rintro a rfl
                simp [endAt, Sem.wrap] at he
              have hr : ∀ e, x ≠ .raise e := by
                rintro e rfl
                obtain ⟨heap, gens, drawn, toks, os⟩ := s; simp only [Sem.wrap, step] at hs
                cases hs
              obtain ⟨k1, _⟩ := okOuter (K' := K') (H' := H') hp hr hk; refine ⟨k1, ?_, step_outer hB hp hs⟩; simp only [endAt, beq_eq_false_iff_ne.mpr (Nat.ne_of_gt hb)]
            · obtain ⟨k1, _⟩ := okInner hB F hk
              refine ⟨k1, ?_, step_inner hB F hs⟩
              have : (st'.length == b) = false := beq_eq_false_iff_ne.mpr (Nat.ne_of_gt (Nat.lt_trans hb F.longer.2))
              simp only [endAt, this]
          obtain ⟨k1, k2, t₂', k3, R'⟩ := key; obtain ⟨a, ha, hN⟩ := ih s₂ t₂ t₂' f s' c' p' R' h; refine ⟨a, ha, fun N r q => ?_⟩; rw [show n + 1 + N = n + N + 1 by omega]; exact segRun_step k2 k1 k3 (hN N r q)
end inner
end
def RunsTo (p : Program) (w : World) (c : Code) (B : List Frame) {α : Type} (k : Nat) (t : Sem α) (s : Shared) (pos : Pos) (a : α) (s' : Shared) (pos' : Pos) : Prop :=
  ∀ (K : α → Sem Fin) (H : Value → Sem Fin) (gd : Bool → Bool) (lv : List Value → List Value) (N : Nat) (r : Flow × Shared × Code × Pos),
    segRun treeTable p w 11 (some (.ref 6)) 1 N s' ⟨K a, c, pos', B⟩ = some r →
    segRun treeTable p w 11 (some (.ref 6)) 1 (k + N) s ⟨t.wrap K H gd lv, c, pos, B⟩ = some r
section runs
variable {p : Program} {w : World} {c : Code} {B : List Frame} {α β : Type} {s s' s'' : Shared} {pos pos' pos'' : Pos}
theorem RunsTo.pure {a : α} : RunsTo p w c B 0 (Pure.pure a : Sem α) s pos a s pos := fun K H gd lv N r h => by
  rw [Nat.zero_add]; exact h
theorem RunsTo.mono {k k' : Nat} {t : Sem α} {a : α} (h : RunsTo p w c B k t s pos a s' pos') (hk : k ≤ k') : RunsTo p w c B k' t s pos a s' pos' :=
  fun K H gd lv N r q => segRun_le (Nat.add_le_add_right hk N) (h K H gd lv N r q)
theorem RunsTo.bind {k k' : Nat} {m : Sem α} {f : α → Sem β} {a : α} {b : β} (h : RunsTo p w c B k m s pos a s' pos') (h' : RunsTo p w c B k' (f a) s' pos' b s'' pos'') :
    RunsTo p w c B (k + k') (m >>= f) s pos b s'' pos'' := fun K H gd lv N r q => by
  rw [Sem.bind_eq_wrap', Sem.wrap_wrap, Nat.add_assoc]; exact h _ _ _ _ _ r (h' K H gd lv N r q)
theorem RunsTo.holding {k : Nat} {vs : List Value} {m : Sem α} {a : α} (h : RunsTo p w c B k m s pos a s' pos') : RunsTo p w c B k (holding vs m) s pos a s' pos' := by
  unfold PySem.holding
  split
  · exact h
  · intro K H gd lv N r q
    rw [Sem.keep_eq_wrap, Sem.wrap_wrap]; exact h K _ _ _ N r q
theorem RunsTo.catch {k : Nat} {m : Sem α} {g : Value → Sem α} {a : α} (h : RunsTo p w c B k m s pos a s' pos') : RunsTo p w c B k (m.tryCatch g) s pos a s' pos' := fun K H gd lv N r q => by
  rw [Sem.tryCatch_eq_wrap, Sem.wrap_wrap]; exact h K _ _ _ N r q
theorem endAt_none {cur : Sem Fin} (hB : 1 < B.length) : endAt 1 ⟨cur, c, pos, B⟩ = none := by
  have : (B.length == 1) = false := beq_eq_false_iff_ne.mpr (Nat.ne_of_gt hB)
  simp only [endAt, this]
theorem RunsTo.rule (hB : 1 < B.length) {tag : String} : RunsTo p w c B 1 (PySem.rule tag) s pos () s pos := fun K H gd lv N r h => by
  rw [Nat.add_comm]; refine segRun_step (endAt_none hB) rfl ?_ h
  cases s; rfl
theorem RunsTo.standAt (hB : 1 < B.length) : RunsTo p w c B 1 (PySem.standAt pos') s pos () s pos' := fun K H gd lv N r h => by
  rw [Nat.add_comm]; refine segRun_step (endAt_none hB) rfl ?_ h
  cases s; rfl
theorem RunsTo.ask (hB : 1 < B.length) : RunsTo p w c B 1 PySem.ask s pos ⟨p, w.params⟩ s pos := fun K H gd lv N r h => by
  rw [Nat.add_comm]; refine segRun_step (endAt_none hB) rfl ?_ h
  cases s; rfl
theorem RunsTo.load (hB : 1 < B.length) {a : Addr} {part : Option Value} {o : Obj} (ho : s.heap.get? a = some o) : RunsTo p w c B 1 (.load a part .pure) s pos o s pos := fun K H gd lv N r h => by
  rw [Nat.add_comm]; refine segRun_step (endAt_none hB) rfl ?_ h; obtain ⟨heap, gens, drawn, toks, os⟩ := s; simp only [Sem.wrap, step, ho]
theorem RunsTo.update (hB : 1 < B.length) {a : Addr} {part : Option Value} {f : Obj → Obj} {o : Obj} (ha : Nat.ble 11 a = true) (ho : s.heap.get? a = some o) :
    RunsTo p w c B 1 (.update a part f .pure) s pos () { s with heap := s.heap.update a f } pos := fun K H gd lv N r h => by
  rw [Nat.add_comm]; refine segRun_step (endAt_none hB) ?_ ?_ h
  · simp only [stepOk, Sem.wrap, ha, Bool.true_or, Bool.and_true]; rfl
  · obtain ⟨heap, gens, drawn, toks, os⟩ := s
    simp only [Sem.wrap, step, ho, Option.isSome_some, if_true]
theorem RunsTo.fresh (hB : 1 < B.length) : RunsTo p w c B 1 PySem.fresh s pos s.toks { s with toks := s.toks + 1 } pos := fun K H gd lv N r h => by
  rw [Nat.add_comm]; refine segRun_step (endAt_none hB) rfl ?_ h
  cases s; rfl
theorem RunsTo.alloc (hB : 1 < B.length) {o : Obj} : RunsTo p w c B 1 (PySem.alloc o) s pos s.heap.objs.size { s with heap := s.heap.push o } pos := fun K H gd lv N r h => by
  rw [Nat.add_comm]; refine segRun_step (endAt_none hB) rfl ?_ h
  cases s; rfl
theorem RunsTo.of_seg (hB : splitAtGen B = none) (h1 : 1 < B.length) {n : Nat} {m : Sem α} {res : α → Flow} {a : α} (hinj : ∀ a', res a' = res a → a' = a)
    (h : ∀ gd lv, segRun treeTable p w 11 (some (.ref 6)) B.length n s ⟨m.wrap (fun a => .pure (.done (res a))) deadEnd gd lv, c, pos, B⟩ = some (res a, s', c, pos')) :
    RunsTo p w c B n m s pos a s' pos' := fun K H gd lv N r q => by
  obtain ⟨a', ha, hN⟩ := seg_in (res := res) (K' := K) (H' := H) (gd := gd) (lv := lv) hB h1 n s ⟨m.wrap (fun a => .pure (.done (res a))) deadEnd gd lv, c, pos, B⟩ ⟨m.wrap K H gd lv, c, pos, B⟩ _ _ _ _ ⟨rfl, rfl, .inl ⟨rfl, rfl, _, rfl, rfl⟩⟩ (h gd lv); obtain rfl := hinj a' ha; exact hN N r q
end runs
end Mine
namespace Mine
abbrev SetSt := Array (Int × Value) × Nat × SetTable
def SO (x : SetSt) : Obj := { cls := .type "set", dict := none, data := .set x.1 x.2.1 x.2.2, slots := #[] }
def plainOff (t : SetTable) : SetTable := if t.plain then { t with plain := false } else t
def addSt (P : Params) (x : Str) (tk : Nat) (st : SetSt) : SetSt :=
  let r := layNew st.2.2 st.1 (PyData.keyHash P x) (.str x tk)
  let t2 := plainOff r.2.1
  if (!r.2.2.1 && t2.tooFull) = true then
    let q := relayAll t2 r.1 (SetTable.grown r.1.size)
    (q.1, st.2.1 + 1 + 1, q.2.1)
  else (r.1, st.2.1 + 1, t2)
def unledSt (st : SetSt) : SetSt := (st.1, st.2.1 + 1, { st.2.2 with led := false })
def Bears (P : Params) (st : SetSt) (S : Str → Bool) (n : Nat) : Prop :=
  (∀ e ∈ st.1.toList, ∃ k t, e = (PyData.keyHash P k, Value.str k t)) ∧ (∀ k, S k = true ↔ ∃ e ∈ st.1.toList, e.2.isStr k = true) ∧ st.1.size = n ∧ st.2.2.fits st.1.size = true
theorem isStr_str (k x : Str) (t : Tok) : (Value.str x t).isStr k = decide (x = k) := by
  show (x == k) = decide (x = k)
  by_cases h : x = k
  · subst h; simp
  · rw [decide_eq_false h]; exact beq_eq_false_iff_ne.mpr h
theorem bears_obj {P : Params} {st : SetSt} {S : Str → Bool} {n : Nat} (h : Bears P st S n) (prog : Program) (w : World) (hw : w.params = P) : (SO st).SetObjOf (strKind prog w) S n := by
  obtain ⟨h1, h2, h3, h4⟩ := h; refine ⟨⟨rfl, rfl, rfl⟩, st.1, st.2.1, st.2.2, rfl, fun e he => ?_, fun k => ?_, h3, h4⟩
  · obtain ⟨k, t, rfl⟩ := h1 e he
    exact ⟨⟨k, strKind_is prog w k t, by subst hw; rfl⟩, rfl⟩
  · rw [h2 k]
    have e : ∀ v, (strKind prog w).is k v = v.isStr k := fun v => (isStr_of k v).symm
    simp only [e]
theorem perm_push {P : Params} {st : SetSt} {S : Str → Bool} {n : Nat} {es' : Array (Int × Value)} {x : Str} {tk : Nat} (h : Bears P st S n)
    (hp : List.Perm es'.toList (st.1.push (PyData.keyHash P x, .str x tk)).toList) :
    (∀ e ∈ es'.toList, ∃ k t, e = (PyData.keyHash P k, Value.str k t)) ∧ (∀ k, (S k || decide (k = x)) = true ↔ ∃ e ∈ es'.toList, e.2.isStr k = true) ∧ es'.size = n + 1 := by
  obtain ⟨h1, h2, h3, _⟩ := h; rw [Array.toList_push] at hp; refine ⟨fun e he => ?_, fun k => ?_, ?_⟩
  · rcases List.mem_append.mp (hp.mem_iff.mp he) with q | q
    · exact h1 e q
    · rw [List.mem_singleton] at q; exact ⟨x, tk, q⟩
  · rw [Bool.or_eq_true, h2 k, decide_eq_true_eq]
    constructor
    · rintro (⟨e, he, q⟩ | rfl)
      · exact ⟨e, hp.mem_iff.mpr (List.mem_append_left _ he), q⟩
      · exact ⟨_, hp.mem_iff.mpr (List.mem_append_right _ (List.mem_singleton.mpr rfl)), by simp [Value.isStr]⟩
    · rintro ⟨e, he, q⟩
      rcases List.mem_append.mp (hp.mem_iff.mp he) with he | he
      · exact .inl ⟨e, he, q⟩
      · rw [List.mem_singleton] at he; subst he
        rw [isStr_str, decide_eq_true_eq] at q; exact .inr q.symm
  · rw [← Array.length_toList, hp.length_eq, List.length_append, Array.length_toList, h3]; rfl
theorem plainOff_fits {t : SetTable} {n : Nat} (h : t.fits n = true) : (plainOff t).fits n = true := by
  unfold plainOff
  split
  · exact SetTable.fits_plain_off h
  · exact h
theorem bears_add {P : Params} {st : SetSt} {S : Str → Bool} {n : Nat} (x : Str) (tk : Nat) (h : Bears P st S n) : Bears P (addSt P x tk st) (fun k => S k || decide (k = x)) (n + 1) := by
  have hp := layNew_perm st.2.2 st.1 (PyData.keyHash P x) (.str x tk)
  have hf := layNew_fits st.2.2 st.1 (PyData.keyHash P x) (.str x tk)
  obtain ⟨a1, a2, a3⟩ := perm_push h hp; unfold addSt
  dsimp only
  split
  · have hp2 := relayAll_perm (plainOff (layNew st.2.2 st.1 (PyData.keyHash P x) (.str x tk)).2.1) (layNew st.2.2 st.1 (PyData.keyHash P x) (.str x tk)).1 (SetTable.grown (layNew st.2.2 st.1 (PyData.keyHash P x) (.str x tk)).1.size)
    have hf2 := relayAll_fits (plainOff (layNew st.2.2 st.1 (PyData.keyHash P x) (.str x tk)).2.1) (layNew st.2.2 st.1 (PyData.keyHash P x) (.str x tk)).1 (SetTable.grown (layNew st.2.2 st.1 (PyData.keyHash P x) (.str x tk)).1.size)
    refine ⟨fun e he => a1 e (hp2.mem_iff.mp he), fun k => (a2 k).trans ⟨fun ⟨e, he, q⟩ => ⟨e, hp2.mem_iff.mpr he, q⟩, fun ⟨e, he, q⟩ => ⟨e, hp2.mem_iff.mp he, q⟩⟩, ?_, hf2⟩; rw [← Array.length_toList, hp2.length_eq, Array.length_toList]; exact a3
  · exact ⟨a1, a2, a3, plainOff_fits hf⟩
theorem bears_unled {P : Params} {st : SetSt} {S : Str → Bool} {n : Nat} (h : Bears P st S n) : Bears P (unledSt st) S n := by
  obtain ⟨h1, h2, h3, h4⟩ := h; exact ⟨h1, h2, h3, h4⟩
theorem bears_fresh (P : Params) (led : Bool) : Bears P (#[], 0, .fresh 0 0 led) (fun _ => false) 0 :=
  ⟨fun e he => by simp at he, fun k => by simp, rfl, rfl⟩
structure Hole (a : Addr) (S : Obj → Nat → Shared) : Prop where
  big : Nat.ble 11 a = true
  get : ∀ x k, (S (SO x) k).heap.get? a = some (SO x)
  upd : ∀ x y k (f : Obj → Obj), f (SO x) = SO y → { S (SO x) k with heap := (S (SO x) k).heap.update a f } = S (SO y) k
  tok : ∀ o k, (S o k).toks = k ∧ { S o k with toks := k + 1 } = S o (k + 1)
section
variable {p : Program} {w : World} {c : Code} {B : List Frame} {a : Addr} {S : Obj → Nat → Shared} {pos : Pos} {x : SetSt} {k : Nat}
theorem setState_runs (hB : 1 < B.length) (hS : Hole a S) (hf : x.2.2.fits x.1.size = true) : RunsTo p w c B 1 (setState a) (S (SO x) k) pos x (S (SO x) k) pos := by
  unfold setState; refine (RunsTo.load (part := none) hB (hS.get x k)).bind (k' := 0) (b := x) ?_
  have hc : (x.2.2.place.size != x.1.size || decide (x.2.2.fill > x.2.2.mask)) = false := by
    simp only [SetTable.fits, Bool.and_eq_true, beq_iff_eq, decide_eq_true_eq] at hf; simp [hf.1, Nat.not_lt.mpr hf.2]
  dsimp only [SO]
  rw [hc]; exact RunsTo.pure
theorem storeSet_runs (hB : 1 < B.length) (hS : Hole a S) {es : Array (Int × Value)} {t : SetTable} (hz : es.size ≤ sizeLine) :
    RunsTo p w c B 2 (storeSet a es t) (S (SO x) k) pos () (S (SO (es, x.2.1 + 1, t)) k) pos := by
  unfold storeSet; refine (RunsTo.load (part := none) hB (hS.get x k)).bind (k' := 1) ?_
  dsimp only [SO]
  rw [if_neg (Nat.not_lt.mpr hz)]
  have h := RunsTo.update (p := p) (w := w) (c := c) (pos := pos) (part := none) (f := Obj.putSet es t) hB hS.big (hS.get x k)
  rw [hS.upd x (es, x.2.1 + 1, t) k _ rfl] at h; exact h
theorem gave_runs (hB : 1 < B.length) {s : Shared} (b : Bool) : RunsTo p w c B 1 (match b with | true => rule "set.scan.the-table-gave-way" | false => pure ()) s pos () s pos := by
  cases b
  · exact RunsTo.pure.mono (Nat.zero_le 1)
  · exact RunsTo.rule hB
theorem findIdx_none {P : Params} {T : Str → Bool} {n : Nat} {y : Str} (hb : Bears P x T n) (hy : T y = false) : x.1.findIdx? (·.2.isStr y) = none := by
  rw [Array.findIdx?_eq_none_iff]
  intro e he
  cases q : e.2.isStr y with
  | false => rfl
  | true => rw [(hb.2.1 y).mpr ⟨e, Array.mem_toList_iff.mpr he, q⟩] at hy; cases hy
theorem add_runs (hB : 1 < B.length) (hS : Hole a S) {T : Str → Bool} {n : Nat} {y : Str} {tk : Nat} (hb : Bears w.params x T n) (hy : T y = false) (hn : n + 1 < scanBound) :
    RunsTo p w c B 10 (setAddHashed a (.str y tk) (PyData.keyHash w.params y)) (S (SO x) k) pos true (S (SO (addSt w.params y tk x)) k) pos := by
  unfold setAddHashed setAddHashedIn; refine RunsTo.holding ?_; refine (setState_runs hB hS hb.2.2.2).bind (k' := 9) ?_
  dsimp only
  have hsc : byScan (.str y tk) x.1 = true := by
    have : x.1.all (fun e => e.2.scannable) = true := by
      rw [← Array.all_toList, List.all_eq_true]
      intro e he
      obtain ⟨_, _, rfl⟩ := hb.1 e he; rfl
    simp only [byScan, Bool.and_eq_true, decide_eq_true_eq]; refine ⟨⟨rfl, ?_⟩, this⟩; rw [hb.2.2.1]; omega
  rw [hsc]; simp only [↓reduceIte]; refine RunsTo.bind (k := 9) (k' := 0) (a := some true) ?_ RunsTo.pure; unfold setAddByScan; refine (RunsTo.rule hB).bind (k' := 8) ?_; refine RunsTo.bind (k := 0) (k' := 8) (a := ScanMet.absent) (s' := S (SO x) k) (pos' := pos) ?_ ?_
  · unfold setScan
    dsimp only
    have hex : x.1.all (fun e => isExactStrKey e.2) = true := by
      rw [← Array.all_toList, List.all_eq_true]
      intro e he
      obtain ⟨_, _, rfl⟩ := hb.1 e he; rfl
    rw [hex]; simp only [↓reduceIte]; unfold setScanStrs; rw [findIdx_none hb hy]; exact RunsTo.pure
  · dsimp only
    have hp := layNew_perm x.2.2 x.1 (PyData.keyHash w.params y) (.str y tk)
    have hf := layNew_fits x.2.2 x.1 (PyData.keyHash w.params y) (.str y tk)
    obtain ⟨_, _, a3⟩ := perm_push hb hp; unfold addSt; generalize layNew x.2.2 x.1 (PyData.keyHash w.params y) (.str y tk) = L at hf a3 ⊢; obtain ⟨es1, t1, wasDummy, gave⟩ := L
    dsimp only at hf a3 ⊢
    have hz : es1.size ≤ sizeLine := fits_of_scanBound (by omega)
    refine RunsTo.bind (k := 1) (k' := 7) (gave_runs hB gave) ?_
    have hpl : RunsTo p w c B 0 (if t1.plain = true then hashByValue 8 (.str y tk) else pure true : Sem Bool) (S (SO x) k) pos (!t1.plain) (S (SO x) k) pos := by
      cases t1.plain
      · exact RunsTo.pure
      · rw [if_pos rfl, hashByValue_scannable 8 rfl]; exact RunsTo.pure
    have htail : ∀ t2, t2 = plainOff t1 → RunsTo p w c B 7 (do
        storeSet a es1 t2
        if (!wasDummy && t2.tooFull) = true then do
            (match (relayAll t2 es1 (SetTable.grown es1.size)).2.2 with | true => rule "set.scan.the-table-gave-way" | false => pure ())
            storeSet a (relayAll t2 es1 (SetTable.grown es1.size)).1 (relayAll t2 es1 (SetTable.grown es1.size)).2.1
            pure (some true)
          else pure (some true)) (S (SO x) k) pos (some true) (S (SO (if (!wasDummy && (plainOff t1).tooFull) = true then ((relayAll (plainOff t1) es1 (SetTable.grown es1.size)).1, x.2.1 + 1 + 1, (relayAll (plainOff t1) es1 (SetTable.grown es1.size)).2.1) else (es1, x.2.1 + 1, plainOff t1))) k) pos := by
      rintro _ rfl
      refine RunsTo.bind (k := 2) (k' := 5) (storeSet_runs hB hS hz) ?_
      split
      · have hp2 := relayAll_perm (plainOff t1) es1 (SetTable.grown es1.size)
        have hz2 : (relayAll (plainOff t1) es1 (SetTable.grown es1.size)).1.size ≤ sizeLine := by
          rw [← Array.length_toList, hp2.length_eq, Array.length_toList]; exact hz
        refine RunsTo.bind (k := 1) (k' := 4) (gave_runs hB _) ?_; refine RunsTo.bind (k := 2) (k' := 2) (storeSet_runs hB hS hz2) ?_; exact RunsTo.pure.mono (Nat.zero_le 2)
      · exact RunsTo.pure.mono (Nat.zero_le 5)
    have hpo : plainOff t1 = if (!t1.plain) = true then t1 else { t1 with plain := false } := by
      unfold plainOff
      cases t1.plain <;> rfl
    by_cases hq : t1.plain = true
    · rw [if_pos hq] at hpl ⊢
      refine RunsTo.bind (k := 0) (k' := 7) hpl ?_; exact htail _ hpo.symm
    · rw [if_neg hq] at hpl ⊢
      refine RunsTo.bind (k := 0) (k' := 7) hpl ?_; exact htail _ hpo.symm
theorem unled_runs (hB : 1 < B.length) (hS : Hole a S) {P : Params} {T : Str → Bool} {n : Nat} (hb : Bears P x T n) (hn : n < scanBound) :
    RunsTo p w c B 3 (setUnled a) (S (SO x) k) pos () (S (SO (unledSt x)) k) pos := by
  unfold setUnled; refine (setState_runs hB hS hb.2.2.2).bind (k' := 2) ?_; exact storeSet_runs hB hS (fits_of_scanBound (by rw [hb.2.2.1]; exact hn))
end
end Mine
namespace Mine
open_shared S0 for PySem.Challenge.pw_ip0004_01 leaving 20
end Mine
namespace Mine
noncomputable section
variable (P : Params)
abbrev pw : Program := PySem.Challenge.pw_ip0004_01
def PW : List Stmt := pw.main.body
def at_ (l : List Stmt) (i : Nat) : Stmt := (l[i]?).getD (.Pass default)
def bodyOf : Stmt → List Stmt
  | .ClassDef _ _ _ b _ _ _ _ _ _ _ => b
  | .FunctionDef _ _ b _ _ _ _ _ _ _ => b
  | _ => []
def scopeOf : Stmt → Scope
  | .ClassDef _ _ _ _ _ _ s _ _ _ _ => s
  | .FunctionDef _ _ _ _ _ _ s _ _ _ => s
  | _ => pw.main.scope
def fnD (st : Stmt) (q : Str) (g : Addr) (pm cd : Value) (b : Addr) : FuncData := match st with
  | .FunctionDef n a body _ _ _ sc _ _ _ => { name := n, qualname := q, params := a, body := .stmts body, scope := sc, globals := g, closure := [], defaults := .none, kwdefaults := .none, pyModule := pm, code := cd, builtins := b }
  | _ => default
abbrev zI (i : Int) : Value := .int i 0
abbrev yS (s : String) (t : Nat) : Value := .str (.ofString s) t
abbrev eD (P : Params) (s : String) (t : Nat) (v : Value) : DictEntry := ⟨PyData.keyHash P (.ofString s), .str (.ofString s) t, v⟩
abbrev bN := BT.node
abbrev bZ := BT.nil
abbrev yM : Value := yS "snowballstemmer.dutch_porter_stemmer" 471
abbrev yP (n : Nat) : Value := yS "/claim/cut.py" n
abbrev yL : Value := yS "law_ip0004_01" 1174
abbrev oT (l : List Value) : Obj := ⟨(.type "tuple"), none, .seq l.toArray 0, [].toArray⟩
abbrev oD (n : Nat) (l : List DictEntry) : Obj := ⟨(.type "dict"), none, .dict l.toArray n, [].toArray⟩
abbrev oK (n : Nat) (l : List DictEntry) : Obj := ⟨(.type "frame"), none, .dict l.toArray n, [].toArray⟩
abbrev oC (l : List Value) : Obj := ⟨(.type "code"), none, .fields l.toArray, [].toArray⟩
abbrev oF (l : List Value) : Obj := ⟨.none, none, .fields l.toArray, [].toArray⟩
abbrev oI (a : Addr) : Obj := ⟨(.ref 218), (some a), .plain, [].toArray⟩
abbrev oU (f : FuncData) : Obj := ⟨(.type "function"), none, .func f, [].toArray⟩
abbrev oV (f : FuncData) : Obj := ⟨.none, none, .func f, [].toArray⟩
abbrev fA (i : Nat) := fnD (at_ PW i)
abbrev fB (i j : Nat) := fnD (at_ (bodyOf (at_ PW i)) j)
abbrev ze0 (P : Params) := eD P "__module__" 480 yM
abbrev ze1 (P : Params) := eD P "__qualname__" 482 (yS "DutchPorterStemmer" 481)
abbrev ze2 (P : Params) := eD P "__firstlineno__" 484 (.int 210 483)
abbrev ze3 (P : Params) := eD P "g_v" 499 (.ref 230)
abbrev ze4 (P : Params) := eD P "g_v_I" 516 (.ref 231)
abbrev ze5 (P : Params) := eD P "g_v_j" 533 (.ref 232)
abbrev ze6 (P : Params) := eD P "I_p2" 535 (.int 0 534)
abbrev ze7 (P : Params) := eD P "I_p1" 537 (.int 0 536)
abbrev ze8 (P : Params) := eD P "B_e_found" 538 (.bool false)
abbrev ze9 (P : Params) := eD P "r_prelude" 553 (.ref 239)
abbrev ze10 (P : Params) := eD P "r_mark_regions" 562 (.ref 246)
abbrev ze11 (P : Params) := eD P "r_postlude" 571 (.ref 253)
abbrev ze12 (P : Params) := eD P "r_R1" 578 (.ref 260)
abbrev ze13 (P : Params) := eD P "r_R2" 585 (.ref 267)
abbrev ze14 (P : Params) := eD P "r_undouble" 593 (.ref 274)
abbrev ze15 (P : Params) := eD P "r_e_ending" 601 (.ref 281)
abbrev ze16 (P : Params) := eD P "r_en_ending" 609 (.ref 288)
abbrev ze17 (P : Params) := eD P "r_standard_suffix" 624 (.ref 295)
abbrev ze18 (P : Params) := eD P "_stem" 634 (.ref 302)
abbrev ze19 (P : Params) := eD P "a_0" 779 (.ref 336)
abbrev ze20 (P : Params) := eD P "a_1" 820 (.ref 346)
abbrev ze21 (P : Params) := eD P "a_2" 866 (.ref 356)
abbrev ze22 (P : Params) := eD P "a_3" 936 (.ref 372)
abbrev ze23 (P : Params) := eD P "a_4" 1021 (.ref 391)
abbrev ze24 (P : Params) := eD P "__doc__" 166 .none
abbrev ze25 (P : Params) := eD P "__package__" 167 .none
abbrev ze26 (P : Params) := eD P "__loader__" 168 (.builtin "__main__.__loader__#opaque")
abbrev ze27 (P : Params) := eD P "__spec__" 169 .none
abbrev ze28 (P : Params) := eD P "__annotations__" 170 (.ref 6)
abbrev ze29 (P : Params) := eD P "__builtins__" 171 (.ref 4)
abbrev ze30 (P : Params) := eD P "__file__" 173 (yP 172)
abbrev ze31 (P : Params) := eD P "__cached__" 174 .none
abbrev ze32 (P : Params) := eD P "_wall" 193 (.ref 21)
abbrev ze33 (P : Params) := eD P "BaseStemmer" 435 (.ref 197)
abbrev ze34 (P : Params) := eD P "Among" 470 (.ref 218)
abbrev ze35 (P : Params) := eD P "DutchPorterStemmer" 1093 (.ref 407)
abbrev ze36 (P : Params) := eD P "type.__subclasses__.Exception.0" 1110 (zI 419)
abbrev ze37 (P : Params) := eD P "type.__subclasses__.Exception.1" 1130 (zI 432)
abbrev ze38 (P : Params) := eD P "lab0" 1113 (.ref 419)
abbrev ze39 (P : Params) := eD P "lab1" 1133 (.ref 432)
abbrev ze40 (P : Params) := eD P "lab2" 1153 (.ref 445)
abbrev ze41 (P : Params) := eD P "lab3" 1173 (.ref 458)
abbrev ze42 (P : Params) := eD P "_law_signs" 1177 (yS "enatirdoslgvhkmubpwjzcfxyqèáäéëíïóöúüIYAÉê'-" 1176)
abbrev bL (x : Obj) : BT := .node x .nil .nil
def zt1 := bN (S0.o_66 P) (bL (S0.o_130 P)) (bL (S0.o_194 P))
def zt2 := bN (S0.o_50 P) (bN (S0.o_82 P) (bL (S0.o_146 P)) (bL (S0.o_300 P))) (bN (S0.o_114 P) (bL (S0.o_178 P)) bZ)
def zt5 := bN (S0.o_60 P) (bL (S0.o_124 P)) (bL (S0.o_188 P))
def zt6 := bN (S0.o_44 P) (bN (S0.o_76 P) (bL (S0.o_140 P)) (bL (S0.o_294 P))) (bN (S0.o_108 P) (bL (S0.o_172 P)) bZ)
def zt7 := bN (S0.o_20 P) (bN (S0.o_36 P) (bN (S0.o_68 P) (bL (S0.o_132 P)) (bL (S0.o_196 P))) (bN (S0.o_100 P) (bL (S0.o_164 P)) bZ)) (bN (S0.o_52 P) (bN (S0.o_84 P) (bL (S0.o_148 P)) (bL (S0.o_302 P))) (bN (S0.o_116 P) (bL (S0.o_180 P)) bZ))
def zt11 := bN (S0.o_67 P) (bL (S0.o_131 P)) (bL (S0.o_195 P))
def zt12 := bN (S0.o_51 P) (bN (S0.o_83 P) (bL (S0.o_147 P)) (bL (S0.o_301 P))) (bN (S0.o_115 P) (bL (S0.o_179 P)) bZ)
def zt16 := bN (S0.o_65 P) (bL (S0.o_129 P)) (bL (S0.o_193 P))
def zt17 := bN (S0.o_49 P) (bN (S0.o_81 P) (bL (S0.o_145 P)) (bL (S0.o_299 P))) (bN (S0.o_113 P) (bL (S0.o_177 P)) bZ)
def zt18 := bN (S0.o_25 P) (bN (S0.o_41 P) (bN (S0.o_73 P) (bL (S0.o_137 P)) (bL (S0.o_291 P))) (bN (S0.o_105 P) (bL (S0.o_169 P)) bZ)) (bN (S0.o_57 P) (bN (S0.o_89 P) (bL (S0.o_153 P)) (bL (S0.o_307 P))) (bN (S0.o_121 P) (bL (S0.o_185 P)) bZ))
def st0 (P : Params) : SetSt := (#[], 0, .fresh 0 0 (!P.followText "set-order"))
def gS0 (P : Params) : SetSt := unledSt (addSt P (.ofString "è") 491 (addSt P (.ofString "y") 490 (addSt P (.ofString "u") 489 (addSt P (.ofString "o") 488 (addSt P (.ofString "i") 487 (addSt P (.ofString "e") 486 (addSt P (.ofString "a") 485 (st0 P))))))))
def gO0 (P : Params) : Obj := SO (gS0 P)
def gS1 (P : Params) : SetSt := unledSt (addSt P (.ofString "è") 507 (addSt P (.ofString "y") 506 (addSt P (.ofString "u") 505 (addSt P (.ofString "o") 504 (addSt P (.ofString "i") 503 (addSt P (.ofString "e") 502 (addSt P (.ofString "a") 501 (addSt P (.ofString "I") 500 (st0 P)))))))))
def gO1 (P : Params) : Obj := SO (gS1 P)
def gS2 (P : Params) : SetSt := unledSt (addSt P (.ofString "è") 524 (addSt P (.ofString "y") 523 (addSt P (.ofString "u") 522 (addSt P (.ofString "o") 521 (addSt P (.ofString "j") 520 (addSt P (.ofString "i") 519 (addSt P (.ofString "e") 518 (addSt P (.ofString "a") 517 (st0 P)))))))))
def gO2 (P : Params) : Obj := SO (gS2 P)
def q0 (P : Params) := oF [(zI 1), (zI 0), (.ref 20), (zI 5), (zI 0), (.ref 27), (zI 203), (zI 0), (.ref 207), (zI 210), (zI 0), (.ref 228)]
def q1 (P : Params) := oT [(.ref 197)]
def zt0 := bN (S0.o_7 P) (bN (S0.o_26 P) (bN (S0.o_58 P) (bL (S0.o_122 P)) (bL (S0.o_186 P))) (bN (S0.o_90 P) (bL (S0.o_154 P)) (bL (q1 P)))) (bN (S0.o_42 P) (bN (S0.o_74 P) (bL (S0.o_138 P)) (bL (S0.o_292 P))) (bN (S0.o_106 P) (bL (S0.o_170 P)) bZ))
def q2 (P : Params) : Obj := ⟨(.type "builtin_function_or_method"), none, .fields [(.builtin "type.__prepare__"), (.type "type")].toArray, [].toArray⟩
def zt10 := bN (S0.o_8 P) (bN (S0.o_27 P) (bN (S0.o_59 P) (bL (S0.o_123 P)) (bL (S0.o_187 P))) (bN (S0.o_91 P) (bL (S0.o_155 P)) (bL (q2 P)))) (bN (S0.o_43 P) (bN (S0.o_75 P) (bL (S0.o_139 P)) (bL (S0.o_293 P))) (bN (S0.o_107 P) (bL (S0.o_171 P)) bZ))
def q3 := oD 3 [ze0 P, ze1 P, ze2 P]
def q4 (P : Params) := oT []
def zt15 := bN (boot_o_10 P) (bN (S0.o_10 P) (bN (S0.o_29 P) (bN (S0.o_61 P) (bL (S0.o_125 P)) (bL (S0.o_189 P))) (bN (S0.o_93 P) (bL (S0.o_157 P)) (bL (q4 P)))) (bN (S0.o_45 P) (bN (S0.o_77 P) (bL (S0.o_141 P)) (bL (S0.o_295 P))) (bN (S0.o_109 P) (bL (S0.o_173 P)) bZ))) (bN (S0.o_21 P) (bN (S0.o_37 P) (bN (S0.o_69 P) (bL (S0.o_133 P)) (bL (S0.o_287 P))) (bN (S0.o_101 P) (bL (S0.o_165 P)) bZ)) (bN (S0.o_53 P) (bN (S0.o_85 P) (bL (S0.o_149 P)) (bL (S0.o_303 P))) (bN (S0.o_117 P) (bL (S0.o_181 P)) bZ)))
def zt20 := bN (boot_o_6 P) (zt15 P) (bN (S0.o_4 P) (bN (S0.o_17 P) (bN (S0.o_33 P) (zt16 P) (bN (S0.o_97 P) (bL (S0.o_161 P)) (bL (gO0 P)))) (zt17 P)) (zt18 P))
def q5 (P : Params) := oF []
def zt3 := bN (S0.o_1 P) (bN (S0.o_11 P) (bN (S0.o_30 P) (bN (S0.o_62 P) (bL (S0.o_126 P)) (bL (S0.o_190 P))) (bN (S0.o_94 P) (bL (S0.o_158 P)) (bL (q5 P)))) (bN (S0.o_46 P) (bN (S0.o_78 P) (bL (S0.o_142 P)) (bL (S0.o_296 P))) (bN (S0.o_110 P) (bL (S0.o_174 P)) bZ))) (bN (S0.o_22 P) (bN (S0.o_38 P) (bN (S0.o_70 P) (bL (S0.o_134 P)) (bL (S0.o_288 P))) (bN (S0.o_102 P) (bL (S0.o_166 P)) bZ)) (bN (S0.o_54 P) (bN (S0.o_86 P) (bL (S0.o_150 P)) (bL (S0.o_304 P))) (bN (S0.o_118 P) (bL (S0.o_182 P)) bZ)))
def zt4 := bN (S0.o_285 P) (bN (boot_o_7 P) (zt0 P) (bN (S0.o_18 P) (bN (S0.o_34 P) (zt1 P) (bN (S0.o_98 P) (bL (S0.o_162 P)) bZ)) (zt2 P))) (zt3 P)
def zt22 := bN (S0.o_285 P) (bN (boot_o_7 P) (zt0 P) (bN (S0.o_18 P) (bN (S0.o_34 P) (zt1 P) (bN (S0.o_98 P) (bL (S0.o_162 P)) (bL (gO1 P)))) (zt2 P))) (zt3 P)
def q6 (P : Params) := oC [(yS "DutchPorterStemmer" 475), (yS "DutchPorterStemmer" 476), (yP 477), (zI 210), (zI 0), (zI 0), (zI 0), (zI 0), (.ref 226), (.bool false), (zI 181), (.ref 227), .none, .none, .none, .none, (zI 478), (zI 210), (yP 479)]
def zt13 := bN (q0 P) (bN (S0.o_12 P) (bN (S0.o_31 P) (bN (S0.o_63 P) (bL (S0.o_127 P)) (bL (S0.o_191 P))) (bN (S0.o_95 P) (bL (S0.o_159 P)) (bL (q6 P)))) (bN (S0.o_47 P) (bN (S0.o_79 P) (bL (S0.o_143 P)) (bL (S0.o_297 P))) (bN (S0.o_111 P) (bL (S0.o_175 P)) bZ))) (bN (S0.o_23 P) (bN (S0.o_39 P) (bN (S0.o_71 P) (bL (S0.o_135 P)) (bL (S0.o_289 P))) (bN (S0.o_103 P) (bL (S0.o_167 P)) bZ)) (bN (S0.o_55 P) (bN (S0.o_87 P) (bL (S0.o_151 P)) (bL (S0.o_305 P))) (bN (S0.o_119 P) (bL (S0.o_183 P)) bZ)))
def zt14 := bN (boot_o_4 P) (bN (boot_o_8 P) (zt10 P) (bN (S0.o_19 P) (bN (S0.o_35 P) (zt11 P) (bN (S0.o_99 P) (bL (S0.o_163 P)) bZ)) (zt12 P))) (zt13 P)
def q7 (P : Params) : Obj := ⟨(.type "frame"), none, .plain, [some (.ref 228), some (.ref 3), some (.ref 225), none, some yM, none, some (.ref 0)].toArray⟩
def zt8 := bN (S0.o_3 P) (bN (S0.o_13 P) (bN (S0.o_32 P) (bN (S0.o_64 P) (bL (S0.o_128 P)) (bL (S0.o_192 P))) (bN (S0.o_96 P) (bL (S0.o_160 P)) (bL (q7 P)))) (bN (S0.o_48 P) (bN (S0.o_80 P) (bL (S0.o_144 P)) (bL (S0.o_298 P))) (bN (S0.o_112 P) (bL (S0.o_176 P)) bZ))) (bN (S0.o_24 P) (bN (S0.o_40 P) (bN (S0.o_72 P) (bL (S0.o_136 P)) (bL (S0.o_290 P))) (bN (S0.o_104 P) (bL (S0.o_168 P)) bZ)) (bN (S0.o_56 P) (bN (S0.o_88 P) (bL (S0.o_152 P)) (bL (S0.o_306 P))) (bN (S0.o_120 P) (bL (S0.o_184 P)) bZ)))
def zt9 := bN (boot_o_1 P) (zt4 P) (bN (boot_o_5 P) (bN (boot_o_9 P) (bN (S0.o_9 P) (bN (S0.o_28 P) (zt5 P) (bN (S0.o_92 P) (bL (S0.o_156 P)) (bL (q3 P)))) (zt6 P)) (zt7 P)) (zt8 P))
def trA (P : Params) : BT := (bN (boot_o_0 P) (zt9 P) (bN (boot_o_2 P) (zt14 P) (bN (boot_o_6 P) (zt15 P) (bN (S0.o_4 P) (bN (S0.o_17 P) (bN (S0.o_33 P) (zt16 P) (bN (S0.o_97 P) (bL (S0.o_161 P)) bZ)) (zt17 P)) (zt18 P)))))
def trN0 (P : Params) (o : Obj) : BT := (bN (boot_o_0 P) (zt9 P) (bN (boot_o_2 P) (zt14 P) (bN (boot_o_6 P) (zt15 P) (bN (S0.o_4 P) (bN (S0.o_17 P) (bN (S0.o_33 P) (zt16 P) (bN (S0.o_97 P) (bL (S0.o_161 P)) (bL o))) (zt17 P)) (zt18 P)))))
def q8 := oD 4 [ze0 P, ze1 P, ze2 P, ze3 P]
def zt19 := bN (boot_o_5 P) (bN (boot_o_9 P) (bN (S0.o_9 P) (bN (S0.o_28 P) (zt5 P) (bN (S0.o_92 P) (bL (S0.o_156 P)) (bL (q8 P)))) (zt6 P)) (zt7 P)) (zt8 P)
def trB0 (P : Params) (o : Obj) : BT := (bN (boot_o_0 P) (bN (boot_o_1 P) (zt4 P) (zt19 P)) (bN (boot_o_2 P) (zt14 P) (bN (boot_o_6 P) (zt15 P) (bN (S0.o_4 P) (bN (S0.o_17 P) (bN (S0.o_33 P) (zt16 P) (bN (S0.o_97 P) (bL (S0.o_161 P)) (bL o))) (zt17 P)) (zt18 P)))))
def trN1 (P : Params) (o : Obj) : BT := (bN (boot_o_0 P) (bN (boot_o_1 P) (bN (S0.o_285 P) (bN (boot_o_7 P) (zt0 P) (bN (S0.o_18 P) (bN (S0.o_34 P) (zt1 P) (bN (S0.o_98 P) (bL (S0.o_162 P)) (bL o))) (zt2 P))) (zt3 P)) (zt19 P)) (bN (boot_o_2 P) (zt14 P) (zt20 P)))
def q9 := oD 5 [ze0 P, ze1 P, ze2 P, ze3 P, ze4 P]
def zt21 := bN (boot_o_5 P) (bN (boot_o_9 P) (bN (S0.o_9 P) (bN (S0.o_28 P) (zt5 P) (bN (S0.o_92 P) (bL (S0.o_156 P)) (bL (q9 P)))) (zt6 P)) (zt7 P)) (zt8 P)
def trB1 (P : Params) (o : Obj) : BT := (bN (boot_o_0 P) (bN (boot_o_1 P) (bN (S0.o_285 P) (bN (boot_o_7 P) (zt0 P) (bN (S0.o_18 P) (bN (S0.o_34 P) (zt1 P) (bN (S0.o_98 P) (bL (S0.o_162 P)) (bL o))) (zt2 P))) (zt3 P)) (zt21 P)) (bN (boot_o_2 P) (zt14 P) (zt20 P)))
def trN2 (P : Params) (o : Obj) : BT := (bN (boot_o_0 P) (bN (boot_o_1 P) (zt22 P) (zt21 P)) (bN (boot_o_2 P) (bN (boot_o_4 P) (bN (boot_o_8 P) (zt10 P) (bN (S0.o_19 P) (bN (S0.o_35 P) (zt11 P) (bN (S0.o_99 P) (bL (S0.o_163 P)) (bL o))) (zt12 P))) (zt13 P)) (zt20 P)))
def q10 := oD 6 [ze0 P, ze1 P, ze2 P, ze3 P, ze4 P, ze5 P]
def trB2 (P : Params) (o : Obj) : BT := (bN (boot_o_0 P) (bN (boot_o_1 P) (zt22 P) (bN (boot_o_5 P) (bN (boot_o_9 P) (bN (S0.o_9 P) (bN (S0.o_28 P) (zt5 P) (bN (S0.o_92 P) (bL (S0.o_156 P)) (bL (q10 P)))) (zt6 P)) (zt7 P)) (zt8 P))) (bN (boot_o_2 P) (bN (boot_o_4 P) (bN (boot_o_8 P) (zt10 P) (bN (S0.o_19 P) (bN (S0.o_35 P) (zt11 P) (bN (S0.o_99 P) (bL (S0.o_163 P)) (bL o))) (zt12 P))) (zt13 P)) (zt20 P)))
def q11 := oD 19 [ze0 P, ze1 P, ze2 P, ze3 P, ze4 P, ze5 P, ze6 P, ze7 P, ze8 P, ze9 P, ze10 P, ze11 P, ze12 P, ze13 P, ze14 P, ze15 P, ze16 P, ze17 P, ze18 P]
def q12 (P : Params) := oF [(zI 218), (zI 4), (.ref 238), (zI 301), (zI 4), (.ref 245), (zI 332), (zI 4), (.ref 252), (zI 354), (zI 4), (.ref 259), (zI 357), (zI 4), (.ref 266), (zI 360), (zI 4), (.ref 273), (zI 373), (zI 4), (.ref 280), (zI 390), (zI 4), (.ref 287), (zI 406), (zI 4), (.ref 294), (zI 544), (zI 4), (.ref 301)]
def q13 (P : Params) := oT []
def q14 (P : Params) := oF []
def q15 (P : Params) := oT [(yS "self" 542), (yS "v_1" 543), (yS "v_2" 544), (yS "among_var" 545), (yS "v_3" 546), (yS "v_4" 547), (yS "v_5" 548), (yS "v_6" 549), (yS "v_7" 550)]
def q16 (P : Params) := oT []
def q17 (P : Params) := oV (fB 6 6 (.ofString "DutchPorterStemmer.r_prelude") 0 .none .none 0)
def q18 (P : Params) := oC [(yS "r_prelude" 539), (yS "DutchPorterStemmer.r_prelude" 540), (yP 541), (zI 218), (zI 1), (zI 0), (zI 0), (zI 3), (.ref 233), (.bool true), (zI 181), (.ref 234), .none, (.ref 235), (.ref 236), (.ref 237), (zI 551), (zI 218), (yP 552)]
def q19 (P : Params) := oU (fB 6 6 (.ofString "DutchPorterStemmer.r_prelude") 3 yM (.ref 238) 0)
def q20 (P : Params) := oT []
def q21 (P : Params) := oF []
def q22 (P : Params) := oT [(yS "self" 557), (yS "v_1" 558), (yS "I_x" 559)]
def q23 (P : Params) := oT []
def q24 (P : Params) := oV (fB 6 7 (.ofString "DutchPorterStemmer.r_mark_regions") 0 .none .none 0)
def q25 (P : Params) := oC [(yS "r_mark_regions" 554), (yS "DutchPorterStemmer.r_mark_regions" 555), (yP 556), (zI 301), (zI 1), (zI 0), (zI 0), (zI 3), (.ref 240), (.bool true), (zI 181), (.ref 241), .none, (.ref 242), (.ref 243), (.ref 244), (zI 560), (zI 301), (yP 561)]
def q26 (P : Params) := oU (fB 6 7 (.ofString "DutchPorterStemmer.r_mark_regions") 3 yM (.ref 245) 0)
def q27 (P : Params) := oT []
def q28 (P : Params) := oF []
def q29 (P : Params) := oT [(yS "self" 566), (yS "v_1" 567), (yS "among_var" 568)]
def q30 (P : Params) := oT []
def q31 (P : Params) := oV (fB 6 8 (.ofString "DutchPorterStemmer.r_postlude") 0 .none .none 0)
def q32 (P : Params) := oC [(yS "r_postlude" 563), (yS "DutchPorterStemmer.r_postlude" 564), (yP 565), (zI 332), (zI 1), (zI 0), (zI 0), (zI 3), (.ref 247), (.bool true), (zI 181), (.ref 248), .none, (.ref 249), (.ref 250), (.ref 251), (zI 569), (zI 332), (yP 570)]
def q33 (P : Params) := oU (fB 6 8 (.ofString "DutchPorterStemmer.r_postlude") 3 yM (.ref 252) 0)
def q34 (P : Params) := oT []
def q35 (P : Params) := oF []
def q36 (P : Params) := oT [(yS "self" 575)]
def q37 (P : Params) := oT []
def q38 (P : Params) := oV (fB 6 9 (.ofString "DutchPorterStemmer.r_R1") 0 .none .none 0)
def q39 (P : Params) := oC [(yS "r_R1" 572), (yS "DutchPorterStemmer.r_R1" 573), (yP 574), (zI 354), (zI 1), (zI 0), (zI 0), (zI 3), (.ref 254), (.bool true), (zI 181), (.ref 255), .none, (.ref 256), (.ref 257), (.ref 258), (zI 576), (zI 354), (yP 577)]
def q40 (P : Params) := oU (fB 6 9 (.ofString "DutchPorterStemmer.r_R1") 3 yM (.ref 259) 0)
def q41 (P : Params) := oT []
def q42 (P : Params) := oF []
def q43 (P : Params) := oT [(yS "self" 582)]
def q44 (P : Params) := oT []
def q45 (P : Params) := oV (fB 6 10 (.ofString "DutchPorterStemmer.r_R2") 0 .none .none 0)
def q46 (P : Params) := oC [(yS "r_R2" 579), (yS "DutchPorterStemmer.r_R2" 580), (yP 581), (zI 357), (zI 1), (zI 0), (zI 0), (zI 3), (.ref 261), (.bool true), (zI 181), (.ref 262), .none, (.ref 263), (.ref 264), (.ref 265), (zI 583), (zI 357), (yP 584)]
def q47 (P : Params) := oU (fB 6 10 (.ofString "DutchPorterStemmer.r_R2") 3 yM (.ref 266) 0)
def q48 (P : Params) := oT []
def q49 (P : Params) := oF []
def q50 (P : Params) := oT [(yS "self" 589), (yS "v_1" 590)]
def q51 (P : Params) := oT []
def q52 (P : Params) := oV (fB 6 11 (.ofString "DutchPorterStemmer.r_undouble") 0 .none .none 0)
def q53 (P : Params) := oC [(yS "r_undouble" 586), (yS "DutchPorterStemmer.r_undouble" 587), (yP 588), (zI 360), (zI 1), (zI 0), (zI 0), (zI 3), (.ref 268), (.bool true), (zI 181), (.ref 269), .none, (.ref 270), (.ref 271), (.ref 272), (zI 591), (zI 360), (yP 592)]
def zt31 := bN (S0.o_76 P) (bN (S0.o_140 P) (bL (q53 P)) bZ) (bL (S0.o_294 P))
def q54 (P : Params) := oU (fB 6 11 (.ofString "DutchPorterStemmer.r_undouble") 3 yM (.ref 273) 0)
def zt46 := bN (S0.o_77 P) (bN (S0.o_141 P) (bL (q54 P)) bZ) (bL (S0.o_295 P))
def q55 (P : Params) := oT []
def zt27 := bN (S0.o_78 P) (bN (S0.o_142 P) (bL (q55 P)) bZ) (bL (S0.o_296 P))
def q56 (P : Params) := oF []
def zt42 := bN (S0.o_79 P) (bN (S0.o_143 P) (bL (q56 P)) bZ) (bL (S0.o_297 P))
def q57 (P : Params) := oT [(yS "self" 597), (yS "v_1" 598)]
def zt35 := bN (S0.o_80 P) (bN (S0.o_144 P) (bL (q57 P)) bZ) (bL (S0.o_298 P))
def q58 (P : Params) := oT []
def zt50 := bN (S0.o_81 P) (bN (S0.o_145 P) (bL (q58 P)) bZ) (bL (S0.o_299 P))
def q59 (P : Params) := oV (fB 6 12 (.ofString "DutchPorterStemmer.r_e_ending") 0 .none .none 0)
def zt25 := bN (S0.o_82 P) (bN (S0.o_146 P) (bL (q59 P)) bZ) (bL (S0.o_300 P))
def q60 (P : Params) := oC [(yS "r_e_ending" 594), (yS "DutchPorterStemmer.r_e_ending" 595), (yP 596), (zI 373), (zI 1), (zI 0), (zI 0), (zI 3), (.ref 275), (.bool true), (zI 181), (.ref 276), .none, (.ref 277), (.ref 278), (.ref 279), (zI 599), (zI 373), (yP 600)]
def zt40 := bN (S0.o_83 P) (bN (S0.o_147 P) (bL (q60 P)) bZ) (bL (S0.o_301 P))
def q61 (P : Params) := oU (fB 6 12 (.ofString "DutchPorterStemmer.r_e_ending") 3 yM (.ref 280) 0)
def zt33 := bN (S0.o_84 P) (bN (S0.o_148 P) (bL (q61 P)) bZ) (bL (S0.o_302 P))
def q62 (P : Params) := oT []
def zt48 := bN (S0.o_85 P) (bN (S0.o_149 P) (bL (q62 P)) bZ) (bL (S0.o_303 P))
def q63 (P : Params) := oF []
def zt29 := bN (S0.o_86 P) (bN (S0.o_150 P) (bL (q63 P)) bZ) (bL (S0.o_304 P))
def q64 (P : Params) := oT [(yS "self" 605), (yS "v_1" 606)]
def zt44 := bN (S0.o_87 P) (bN (S0.o_151 P) (bL (q64 P)) bZ) (bL (S0.o_305 P))
def q65 (P : Params) := oT []
def zt37 := bN (S0.o_88 P) (bN (S0.o_152 P) (bL (q65 P)) bZ) (bL (S0.o_306 P))
def q66 (P : Params) := oV (fB 6 13 (.ofString "DutchPorterStemmer.r_en_ending") 0 .none .none 0)
def zt52 := bN (S0.o_89 P) (bN (S0.o_153 P) (bL (q66 P)) bZ) (bL (S0.o_307 P))
def q67 (P : Params) := oC [(yS "r_en_ending" 602), (yS "DutchPorterStemmer.r_en_ending" 603), (yP 604), (zI 390), (zI 1), (zI 0), (zI 0), (zI 3), (.ref 282), (.bool true), (zI 181), (.ref 283), .none, (.ref 284), (.ref 285), (.ref 286), (zI 607), (zI 390), (yP 608)]
def zt23 := bN (S0.o_90 P) (bN (S0.o_154 P) (bL (q67 P)) bZ) (bL (q1 P))
def q68 (P : Params) := oU (fB 6 13 (.ofString "DutchPorterStemmer.r_en_ending") 3 yM (.ref 287) 0)
def zt38 := bN (S0.o_91 P) (bN (S0.o_155 P) (bL (q68 P)) bZ) (bL (q2 P))
def q69 (P : Params) := oT []
def zt30 := bN (S0.o_156 P) (bL (q69 P)) bZ
def q70 (P : Params) := oF []
def zt45 := bN (S0.o_93 P) (bN (S0.o_157 P) (bL (q70 P)) bZ) (bL (q4 P))
def q71 (P : Params) := oT [(yS "self" 613), (yS "v_1" 614), (yS "among_var" 615), (yS "v_2" 616), (yS "v_3" 617), (yS "v_4" 618), (yS "v_5" 619), (yS "v_6" 620), (yS "v_7" 621)]
def zt26 := bN (S0.o_94 P) (bN (S0.o_158 P) (bL (q71 P)) bZ) (bL (q12 P))
def q72 (P : Params) := oT []
def zt41 := bN (S0.o_95 P) (bN (S0.o_159 P) (bL (q72 P)) bZ) (bL (q6 P))
def q73 (P : Params) := oV (fB 6 14 (.ofString "DutchPorterStemmer.r_standard_suffix") 0 .none .none 0)
def zt34 := bN (S0.o_96 P) (bN (S0.o_160 P) (bL (q73 P)) bZ) (bL (q7 P))
def q74 (P : Params) := oC [(yS "r_standard_suffix" 610), (yS "DutchPorterStemmer.r_standard_suffix" 611), (yP 612), (zI 406), (zI 1), (zI 0), (zI 0), (zI 3), (.ref 289), (.bool true), (zI 181), (.ref 290), .none, (.ref 291), (.ref 292), (.ref 293), (zI 622), (zI 406), (yP 623)]
def zt49 := bN (S0.o_97 P) (bN (S0.o_161 P) (bL (q74 P)) bZ) (bL (gO0 P))
def q75 (P : Params) := oU (fB 6 14 (.ofString "DutchPorterStemmer.r_standard_suffix") 3 yM (.ref 294) 0)
def zt24 := bN (S0.o_98 P) (bN (S0.o_162 P) (bL (q75 P)) bZ) (bL (gO1 P))
def q76 (P : Params) := oT []
def zt39 := bN (S0.o_99 P) (bN (S0.o_163 P) (bL (q76 P)) bZ) (bL (gO2 P))
def q77 (P : Params) := oF []
def zt32 := bN (S0.o_100 P) (bN (S0.o_164 P) (bL (q77 P)) bZ) (bL (q13 P))
def q78 (P : Params) := oT [(yS "self" 628), (yS "v_1" 629), (yS "v_2" 630), (yS "v_3" 631)]
def zt47 := bN (S0.o_101 P) (bN (S0.o_165 P) (bL (q78 P)) bZ) (bL (q14 P))
def q79 (P : Params) := oT []
def zt28 := bN (S0.o_102 P) (bN (S0.o_166 P) (bL (q79 P)) bZ) (bL (q15 P))
def q80 (P : Params) := oV (fB 6 15 (.ofString "DutchPorterStemmer._stem") 0 .none .none 0)
def zt43 := bN (S0.o_103 P) (bN (S0.o_167 P) (bL (q80 P)) bZ) (bL (q16 P))
def q81 (P : Params) := oC [(yS "_stem" 625), (yS "DutchPorterStemmer._stem" 626), (yP 627), (zI 544), (zI 1), (zI 0), (zI 0), (zI 3), (.ref 296), (.bool true), (zI 181), (.ref 297), .none, (.ref 298), (.ref 299), (.ref 300), (zI 632), (zI 544), (yP 633)]
def zt36 := bN (S0.o_104 P) (bN (S0.o_168 P) (bL (q81 P)) bZ) (bL (q17 P))
def q82 (P : Params) := oU (fB 6 15 (.ofString "DutchPorterStemmer._stem") 3 yM (.ref 301) 0)
def zt51 := bN (S0.o_105 P) (bN (S0.o_169 P) (bL (q82 P)) bZ) (bL (q18 P))
def trM0 (P : Params) : BT := (bN (boot_o_0 P) (bN (boot_o_1 P) (bN (S0.o_285 P) (bN (boot_o_7 P) (bN (S0.o_7 P) (bN (S0.o_26 P) (bN (S0.o_58 P) (bN (S0.o_122 P) (bL (q35 P)) bZ) (bL (S0.o_186 P))) (zt23 P)) (bN (S0.o_42 P) (bN (S0.o_74 P) (bN (S0.o_138 P) (bL (q51 P)) bZ) (bL (S0.o_292 P))) (bN (S0.o_106 P) (bL (S0.o_170 P)) (bL (q19 P))))) (bN (S0.o_18 P) (bN (S0.o_34 P) (bN (S0.o_66 P) (bN (S0.o_130 P) (bL (q43 P)) bZ) (bL (S0.o_194 P))) (zt24 P)) (bN (S0.o_50 P) (zt25 P) (bN (S0.o_114 P) (bL (S0.o_178 P)) (bL (q27 P)))))) (bN (S0.o_1 P) (bN (S0.o_11 P) (bN (S0.o_30 P) (bN (S0.o_62 P) (bN (S0.o_126 P) (bL (q39 P)) bZ) (bL (S0.o_190 P))) (zt26 P)) (bN (S0.o_46 P) (zt27 P) (bN (S0.o_110 P) (bL (S0.o_174 P)) (bL (q23 P))))) (bN (S0.o_22 P) (bN (S0.o_38 P) (bN (S0.o_70 P) (bN (S0.o_134 P) (bL (q47 P)) bZ) (bL (S0.o_288 P))) (zt28 P)) (bN (S0.o_54 P) (zt29 P) (bN (S0.o_118 P) (bL (S0.o_182 P)) (bL (q31 P))))))) (bN (boot_o_5 P) (bN (boot_o_9 P) (bN (S0.o_9 P) (bN (S0.o_28 P) (bN (S0.o_60 P) (bN (S0.o_124 P) (bL (q37 P)) bZ) (bL (S0.o_188 P))) (bN (S0.o_92 P) (zt30 P) (bL (q11 P)))) (bN (S0.o_44 P) (zt31 P) (bN (S0.o_108 P) (bL (S0.o_172 P)) (bL (q21 P))))) (bN (S0.o_20 P) (bN (S0.o_36 P) (bN (S0.o_68 P) (bN (S0.o_132 P) (bL (q45 P)) bZ) (bL (S0.o_196 P))) (zt32 P)) (bN (S0.o_52 P) (zt33 P) (bN (S0.o_116 P) (bL (S0.o_180 P)) (bL (q29 P)))))) (bN (S0.o_3 P) (bN (S0.o_13 P) (bN (S0.o_32 P) (bN (S0.o_64 P) (bN (S0.o_128 P) (bL (q41 P)) bZ) (bL (S0.o_192 P))) (zt34 P)) (bN (S0.o_48 P) (zt35 P) (bN (S0.o_112 P) (bL (S0.o_176 P)) (bL (q25 P))))) (bN (S0.o_24 P) (bN (S0.o_40 P) (bN (S0.o_72 P) (bN (S0.o_136 P) (bL (q49 P)) bZ) (bL (S0.o_290 P))) (zt36 P)) (bN (S0.o_56 P) (zt37 P) (bN (S0.o_120 P) (bL (S0.o_184 P)) (bL (q33 P)))))))) (bN (boot_o_2 P) (bN (boot_o_4 P) (bN (boot_o_8 P) (bN (S0.o_8 P) (bN (S0.o_27 P) (bN (S0.o_59 P) (bN (S0.o_123 P) (bL (q36 P)) bZ) (bL (S0.o_187 P))) (zt38 P)) (bN (S0.o_43 P) (bN (S0.o_75 P) (bN (S0.o_139 P) (bL (q52 P)) bZ) (bL (S0.o_293 P))) (bN (S0.o_107 P) (bL (S0.o_171 P)) (bL (q20 P))))) (bN (S0.o_19 P) (bN (S0.o_35 P) (bN (S0.o_67 P) (bN (S0.o_131 P) (bL (q44 P)) bZ) (bL (S0.o_195 P))) (zt39 P)) (bN (S0.o_51 P) (zt40 P) (bN (S0.o_115 P) (bL (S0.o_179 P)) (bL (q28 P)))))) (bN (q0 P) (bN (S0.o_12 P) (bN (S0.o_31 P) (bN (S0.o_63 P) (bN (S0.o_127 P) (bL (q40 P)) bZ) (bL (S0.o_191 P))) (zt41 P)) (bN (S0.o_47 P) (zt42 P) (bN (S0.o_111 P) (bL (S0.o_175 P)) (bL (q24 P))))) (bN (S0.o_23 P) (bN (S0.o_39 P) (bN (S0.o_71 P) (bN (S0.o_135 P) (bL (q48 P)) bZ) (bL (S0.o_289 P))) (zt43 P)) (bN (S0.o_55 P) (zt44 P) (bN (S0.o_119 P) (bL (S0.o_183 P)) (bL (q32 P))))))) (bN (boot_o_6 P) (bN (boot_o_10 P) (bN (S0.o_10 P) (bN (S0.o_29 P) (bN (S0.o_61 P) (bN (S0.o_125 P) (bL (q38 P)) bZ) (bL (S0.o_189 P))) (zt45 P)) (bN (S0.o_45 P) (zt46 P) (bN (S0.o_109 P) (bL (S0.o_173 P)) (bL (q22 P))))) (bN (S0.o_21 P) (bN (S0.o_37 P) (bN (S0.o_69 P) (bN (S0.o_133 P) (bL (q46 P)) bZ) (bL (S0.o_287 P))) (zt47 P)) (bN (S0.o_53 P) (zt48 P) (bN (S0.o_117 P) (bL (S0.o_181 P)) (bL (q30 P)))))) (bN (S0.o_4 P) (bN (S0.o_17 P) (bN (S0.o_33 P) (bN (S0.o_65 P) (bN (S0.o_129 P) (bL (q42 P)) bZ) (bL (S0.o_193 P))) (zt49 P)) (bN (S0.o_49 P) (zt50 P) (bN (S0.o_113 P) (bL (S0.o_177 P)) (bL (q26 P))))) (bN (S0.o_25 P) (bN (S0.o_41 P) (bN (S0.o_73 P) (bN (S0.o_137 P) (bL (q50 P)) bZ) (bL (S0.o_291 P))) (zt51 P)) (bN (S0.o_57 P) (zt52 P) (bN (S0.o_121 P) (bL (S0.o_185 P)) (bL (q34 P)))))))))
def q83 := oD 20 [ze0 P, ze1 P, ze2 P, ze3 P, ze4 P, ze5 P, ze6 P, ze7 P, ze8 P, ze9 P, ze10 P, ze11 P, ze12 P, ze13 P, ze14 P, ze15 P, ze16 P, ze17 P, ze18 P, ze19 P]
def q84 := oD 3 [eD P "s" 644 (yS "" 635), eD P "substring_i" 646 (.int (-1) 637), eD P "result" 648 (.int 6 638)]
def q85 (P : Params) := oI 303
def q86 := oK 4 [eD P "self" 639 (.ref 304), eD P "s" 640 (yS "" 635), eD P "substring_i" 641 (.int (-1) 637), eD P "result" 642 (.int 6 638)]
def zt65 := bN (S0.o_108 P) (bN (S0.o_172 P) (bL (q86 P)) bZ) (bL (q21 P))
def q87 := oD 3 [eD P "s" 657 (yS "á" 649), eD P "substring_i" 659 (.int 0 650), eD P "result" 661 (.int 1 651)]
def zt85 := bN (S0.o_109 P) (bN (S0.o_173 P) (bL (q87 P)) bZ) (bL (q22 P))
def q88 (P : Params) := oI 306
def zt60 := bN (S0.o_110 P) (bN (S0.o_174 P) (bL (q88 P)) bZ) (bL (q23 P))
def q89 := oK 4 [eD P "self" 652 (.ref 307), eD P "s" 653 (yS "á" 649), eD P "substring_i" 654 (.int 0 650), eD P "result" 655 (.int 1 651)]
def zt80 := bN (S0.o_111 P) (bN (S0.o_175 P) (bL (q89 P)) bZ) (bL (q24 P))
def q90 := oD 3 [eD P "s" 670 (yS "ä" 662), eD P "substring_i" 672 (.int 0 663), eD P "result" 674 (.int 1 664)]
def zt69 := bN (S0.o_112 P) (bN (S0.o_176 P) (bL (q90 P)) bZ) (bL (q25 P))
def q91 (P : Params) := oI 309
def zt89 := bN (S0.o_113 P) (bN (S0.o_177 P) (bL (q91 P)) bZ) (bL (q26 P))
def q92 := oK 4 [eD P "self" 665 (.ref 310), eD P "s" 666 (yS "ä" 662), eD P "substring_i" 667 (.int 0 663), eD P "result" 668 (.int 1 664)]
def zt58 := bN (S0.o_114 P) (bN (S0.o_178 P) (bL (q92 P)) bZ) (bL (q27 P))
def q93 := oD 3 [eD P "s" 683 (yS "é" 675), eD P "substring_i" 685 (.int 0 676), eD P "result" 687 (.int 2 677)]
def zt78 := bN (S0.o_115 P) (bN (S0.o_179 P) (bL (q93 P)) bZ) (bL (q28 P))
def q94 (P : Params) := oI 312
def zt67 := bN (S0.o_116 P) (bN (S0.o_180 P) (bL (q94 P)) bZ) (bL (q29 P))
def q95 := oK 4 [eD P "self" 678 (.ref 313), eD P "s" 679 (yS "é" 675), eD P "substring_i" 680 (.int 0 676), eD P "result" 681 (.int 2 677)]
def zt87 := bN (S0.o_117 P) (bN (S0.o_181 P) (bL (q95 P)) bZ) (bL (q30 P))
def q96 := oD 3 [eD P "s" 696 (yS "ë" 688), eD P "substring_i" 698 (.int 0 689), eD P "result" 700 (.int 2 690)]
def zt62 := bN (S0.o_118 P) (bN (S0.o_182 P) (bL (q96 P)) bZ) (bL (q31 P))
def q97 (P : Params) := oI 315
def zt82 := bN (S0.o_119 P) (bN (S0.o_183 P) (bL (q97 P)) bZ) (bL (q32 P))
def q98 := oK 4 [eD P "self" 691 (.ref 316), eD P "s" 692 (yS "ë" 688), eD P "substring_i" 693 (.int 0 689), eD P "result" 694 (.int 2 690)]
def zt71 := bN (S0.o_120 P) (bN (S0.o_184 P) (bL (q98 P)) bZ) (bL (q33 P))
def q99 := oD 3 [eD P "s" 709 (yS "í" 701), eD P "substring_i" 711 (.int 0 702), eD P "result" 713 (.int 3 703)]
def zt91 := bN (S0.o_121 P) (bN (S0.o_185 P) (bL (q99 P)) bZ) (bL (q34 P))
def q100 (P : Params) := oI 318
def zt53 := bN (S0.o_58 P) (bN (S0.o_122 P) (bL (q35 P)) bZ) (bN (S0.o_186 P) (bL (q100 P)) bZ)
def q101 := oK 4 [eD P "self" 704 (.ref 319), eD P "s" 705 (yS "í" 701), eD P "substring_i" 706 (.int 0 702), eD P "result" 707 (.int 3 703)]
def zt73 := bN (S0.o_59 P) (bN (S0.o_123 P) (bL (q36 P)) bZ) (bN (S0.o_187 P) (bL (q101 P)) bZ)
def q102 := oD 3 [eD P "s" 722 (yS "ï" 714), eD P "substring_i" 724 (.int 0 715), eD P "result" 726 (.int 3 716)]
def zt64 := bN (S0.o_60 P) (bN (S0.o_124 P) (bL (q37 P)) bZ) (bN (S0.o_188 P) (bL (q102 P)) bZ)
def q103 (P : Params) := oI 321
def zt84 := bN (S0.o_61 P) (bN (S0.o_125 P) (bL (q38 P)) bZ) (bN (S0.o_189 P) (bL (q103 P)) bZ)
def q104 := oK 4 [eD P "self" 717 (.ref 322), eD P "s" 718 (yS "ï" 714), eD P "substring_i" 719 (.int 0 715), eD P "result" 720 (.int 3 716)]
def zt59 := bN (S0.o_62 P) (bN (S0.o_126 P) (bL (q39 P)) bZ) (bN (S0.o_190 P) (bL (q104 P)) bZ)
def q105 := oD 3 [eD P "s" 735 (yS "ó" 727), eD P "substring_i" 737 (.int 0 728), eD P "result" 739 (.int 4 729)]
def zt79 := bN (S0.o_63 P) (bN (S0.o_127 P) (bL (q40 P)) bZ) (bN (S0.o_191 P) (bL (q105 P)) bZ)
def q106 (P : Params) := oI 324
def zt68 := bN (S0.o_64 P) (bN (S0.o_128 P) (bL (q41 P)) bZ) (bN (S0.o_192 P) (bL (q106 P)) bZ)
def q107 := oK 4 [eD P "self" 730 (.ref 325), eD P "s" 731 (yS "ó" 727), eD P "substring_i" 732 (.int 0 728), eD P "result" 733 (.int 4 729)]
def zt88 := bN (S0.o_65 P) (bN (S0.o_129 P) (bL (q42 P)) bZ) (bN (S0.o_193 P) (bL (q107 P)) bZ)
def q108 := oD 3 [eD P "s" 748 (yS "ö" 740), eD P "substring_i" 750 (.int 0 741), eD P "result" 752 (.int 4 742)]
def zt57 := bN (S0.o_66 P) (bN (S0.o_130 P) (bL (q43 P)) bZ) (bN (S0.o_194 P) (bL (q108 P)) bZ)
def q109 (P : Params) := oI 327
def zt77 := bN (S0.o_67 P) (bN (S0.o_131 P) (bL (q44 P)) bZ) (bN (S0.o_195 P) (bL (q109 P)) bZ)
def q110 := oK 4 [eD P "self" 743 (.ref 328), eD P "s" 744 (yS "ö" 740), eD P "substring_i" 745 (.int 0 741), eD P "result" 746 (.int 4 742)]
def zt66 := bN (S0.o_68 P) (bN (S0.o_132 P) (bL (q45 P)) bZ) (bN (S0.o_196 P) (bL (q110 P)) bZ)
def q111 := oD 3 [eD P "s" 761 (yS "ú" 753), eD P "substring_i" 763 (.int 0 754), eD P "result" 765 (.int 5 755)]
def zt86 := bN (S0.o_69 P) (bN (S0.o_133 P) (bL (q46 P)) bZ) (bN (S0.o_287 P) (bL (q111 P)) bZ)
def q112 (P : Params) := oI 330
def zt61 := bN (S0.o_70 P) (bN (S0.o_134 P) (bL (q47 P)) bZ) (bN (S0.o_288 P) (bL (q112 P)) bZ)
def zt63 := bN (S0.o_22 P) (bN (S0.o_38 P) (zt61 P) (zt28 P)) (bN (S0.o_54 P) (zt29 P) (zt62 P))
def q113 := oK 4 [eD P "self" 756 (.ref 331), eD P "s" 757 (yS "ú" 753), eD P "substring_i" 758 (.int 0 754), eD P "result" 759 (.int 5 755)]
def zt81 := bN (S0.o_71 P) (bN (S0.o_135 P) (bL (q48 P)) bZ) (bN (S0.o_289 P) (bL (q113 P)) bZ)
def zt83 := bN (S0.o_23 P) (bN (S0.o_39 P) (zt81 P) (zt43 P)) (bN (S0.o_55 P) (zt44 P) (zt82 P))
def q114 := oD 3 [eD P "s" 774 (yS "ü" 766), eD P "substring_i" 776 (.int 0 767), eD P "result" 778 (.int 5 768)]
def zt70 := bN (S0.o_72 P) (bN (S0.o_136 P) (bL (q49 P)) bZ) (bN (S0.o_290 P) (bL (q114 P)) bZ)
def zt72 := bN (S0.o_24 P) (bN (S0.o_40 P) (zt70 P) (zt36 P)) (bN (S0.o_56 P) (zt37 P) (zt71 P))
def q115 (P : Params) := oI 333
def zt90 := bN (S0.o_73 P) (bN (S0.o_137 P) (bL (q50 P)) bZ) (bN (S0.o_291 P) (bL (q115 P)) bZ)
def zt92 := bN (S0.o_25 P) (bN (S0.o_41 P) (zt90 P) (zt51 P)) (bN (S0.o_57 P) (zt52 P) (zt91 P))
def q116 := oK 4 [eD P "self" 769 (.ref 334), eD P "s" 770 (yS "ü" 766), eD P "substring_i" 771 (.int 0 767), eD P "result" 772 (.int 5 768)]
def zt54 := bN (S0.o_74 P) (bN (S0.o_138 P) (bL (q51 P)) bZ) (bN (S0.o_292 P) (bL (q116 P)) bZ)
def zt55 := bN (S0.o_42 P) (zt54 P) (bN (S0.o_106 P) (bN (S0.o_170 P) (bL (q84 P)) bZ) (bL (q19 P)))
def zt56 := bN (S0.o_7 P) (bN (S0.o_26 P) (zt53 P) (zt23 P)) (zt55 P)
def q117 (P : Params) : Obj := ⟨(.type "list"), none, .seq [(.ref 304), (.ref 307), (.ref 310), (.ref 313), (.ref 316), (.ref 319), (.ref 322), (.ref 325), (.ref 328), (.ref 331), (.ref 334)].toArray 0, [].toArray⟩
def zt74 := bN (S0.o_75 P) (bN (S0.o_139 P) (bL (q52 P)) bZ) (bN (S0.o_293 P) (bL (q117 P)) bZ)
def zt75 := bN (S0.o_43 P) (zt74 P) (bN (S0.o_107 P) (bN (S0.o_171 P) (bL (q85 P)) bZ) (bL (q20 P)))
def zt76 := bN (S0.o_8 P) (bN (S0.o_27 P) (zt73 P) (zt38 P)) (zt75 P)
def trM1 (P : Params) : BT := (bN (boot_o_0 P) (bN (boot_o_1 P) (bN (S0.o_285 P) (bN (boot_o_7 P) (zt56 P) (bN (S0.o_18 P) (bN (S0.o_34 P) (zt57 P) (zt24 P)) (bN (S0.o_50 P) (zt25 P) (zt58 P)))) (bN (S0.o_1 P) (bN (S0.o_11 P) (bN (S0.o_30 P) (zt59 P) (zt26 P)) (bN (S0.o_46 P) (zt27 P) (zt60 P))) (zt63 P))) (bN (boot_o_5 P) (bN (boot_o_9 P) (bN (S0.o_9 P) (bN (S0.o_28 P) (zt64 P) (bN (S0.o_92 P) (zt30 P) (bL (q83 P)))) (bN (S0.o_44 P) (zt31 P) (zt65 P))) (bN (S0.o_20 P) (bN (S0.o_36 P) (zt66 P) (zt32 P)) (bN (S0.o_52 P) (zt33 P) (zt67 P)))) (bN (S0.o_3 P) (bN (S0.o_13 P) (bN (S0.o_32 P) (zt68 P) (zt34 P)) (bN (S0.o_48 P) (zt35 P) (zt69 P))) (zt72 P)))) (bN (boot_o_2 P) (bN (boot_o_4 P) (bN (boot_o_8 P) (zt76 P) (bN (S0.o_19 P) (bN (S0.o_35 P) (zt77 P) (zt39 P)) (bN (S0.o_51 P) (zt40 P) (zt78 P)))) (bN (q0 P) (bN (S0.o_12 P) (bN (S0.o_31 P) (zt79 P) (zt41 P)) (bN (S0.o_47 P) (zt42 P) (zt80 P))) (zt83 P))) (bN (boot_o_6 P) (bN (boot_o_10 P) (bN (S0.o_10 P) (bN (S0.o_29 P) (zt84 P) (zt45 P)) (bN (S0.o_45 P) (zt46 P) (zt85 P))) (bN (S0.o_21 P) (bN (S0.o_37 P) (zt86 P) (zt47 P)) (bN (S0.o_53 P) (zt48 P) (zt87 P)))) (bN (S0.o_4 P) (bN (S0.o_17 P) (bN (S0.o_33 P) (zt88 P) (zt49 P)) (bN (S0.o_49 P) (zt50 P) (zt89 P))) (zt92 P)))))
def q118 := oD 21 [ze0 P, ze1 P, ze2 P, ze3 P, ze4 P, ze5 P, ze6 P, ze7 P, ze8 P, ze9 P, ze10 P, ze11 P, ze12 P, ze13 P, ze14 P, ze15 P, ze16 P, ze17 P, ze18 P, ze19 P, ze20 P]
def q119 := oD 3 [eD P "s" 789 (yS "" 780), eD P "substring_i" 791 (.int (-1) 782), eD P "result" 793 (.int 3 783)]
def zt96 := bN (S0.o_76 P) (bN (S0.o_140 P) (bL (q53 P)) bZ) (bN (S0.o_294 P) (bL (q119 P)) bZ)
def q120 (P : Params) := oI 337
def zt104 := bN (S0.o_77 P) (bN (S0.o_141 P) (bL (q54 P)) bZ) (bN (S0.o_295 P) (bL (q120 P)) bZ)
def q121 := oK 4 [eD P "self" 784 (.ref 338), eD P "s" 785 (yS "" 780), eD P "substring_i" 786 (.int (-1) 782), eD P "result" 787 (.int 3 783)]
def zt95 := bN (S0.o_78 P) (bN (S0.o_142 P) (bL (q55 P)) bZ) (bN (S0.o_296 P) (bL (q121 P)) bZ)
def q122 := oD 3 [eD P "s" 802 (yS "I" 794), eD P "substring_i" 804 (.int 0 795), eD P "result" 806 (.int 2 796)]
def zt103 := bN (S0.o_79 P) (bN (S0.o_143 P) (bL (q56 P)) bZ) (bN (S0.o_297 P) (bL (q122 P)) bZ)
def q123 (P : Params) := oI 340
def zt99 := bN (S0.o_80 P) (bN (S0.o_144 P) (bL (q57 P)) bZ) (bN (S0.o_298 P) (bL (q123 P)) bZ)
def zt100 := bN (S0.o_13 P) (bN (S0.o_32 P) (zt68 P) (zt34 P)) (bN (S0.o_48 P) (zt99 P) (zt69 P))
def q124 := oK 4 [eD P "self" 797 (.ref 341), eD P "s" 798 (yS "I" 794), eD P "substring_i" 799 (.int 0 795), eD P "result" 800 (.int 2 796)]
def zt107 := bN (S0.o_81 P) (bN (S0.o_145 P) (bL (q58 P)) bZ) (bN (S0.o_299 P) (bL (q124 P)) bZ)
def zt108 := bN (S0.o_17 P) (bN (S0.o_33 P) (zt88 P) (zt49 P)) (bN (S0.o_49 P) (zt107 P) (zt89 P))
def q125 := oD 3 [eD P "s" 815 (yS "Y" 807), eD P "substring_i" 817 (.int 0 808), eD P "result" 819 (.int 1 809)]
def zt93 := bN (S0.o_82 P) (bN (S0.o_146 P) (bL (q59 P)) bZ) (bN (S0.o_300 P) (bL (q125 P)) bZ)
def zt94 := bN (S0.o_18 P) (bN (S0.o_34 P) (zt57 P) (zt24 P)) (bN (S0.o_50 P) (zt93 P) (zt58 P))
def q126 (P : Params) := oI 343
def zt101 := bN (S0.o_83 P) (bN (S0.o_147 P) (bL (q60 P)) bZ) (bN (S0.o_301 P) (bL (q126 P)) bZ)
def zt102 := bN (S0.o_19 P) (bN (S0.o_35 P) (zt77 P) (zt39 P)) (bN (S0.o_51 P) (zt101 P) (zt78 P))
def q127 := oK 4 [eD P "self" 810 (.ref 344), eD P "s" 811 (yS "Y" 807), eD P "substring_i" 812 (.int 0 808), eD P "result" 813 (.int 1 809)]
def zt97 := bN (S0.o_84 P) (bN (S0.o_148 P) (bL (q61 P)) bZ) (bN (S0.o_302 P) (bL (q127 P)) bZ)
def zt98 := bN (S0.o_20 P) (bN (S0.o_36 P) (zt66 P) (zt32 P)) (bN (S0.o_52 P) (zt97 P) (zt67 P))
def q128 (P : Params) : Obj := ⟨(.type "list"), none, .seq [(.ref 338), (.ref 341), (.ref 344)].toArray 0, [].toArray⟩
def zt105 := bN (S0.o_85 P) (bN (S0.o_149 P) (bL (q62 P)) bZ) (bN (S0.o_303 P) (bL (q128 P)) bZ)
def zt106 := bN (S0.o_21 P) (bN (S0.o_37 P) (zt86 P) (zt47 P)) (bN (S0.o_53 P) (zt105 P) (zt87 P))
def trM2 (P : Params) : BT := (bN (boot_o_0 P) (bN (boot_o_1 P) (bN (S0.o_285 P) (bN (boot_o_7 P) (zt56 P) (zt94 P)) (bN (S0.o_1 P) (bN (S0.o_11 P) (bN (S0.o_30 P) (zt59 P) (zt26 P)) (bN (S0.o_46 P) (zt95 P) (zt60 P))) (zt63 P))) (bN (boot_o_5 P) (bN (boot_o_9 P) (bN (S0.o_9 P) (bN (S0.o_28 P) (zt64 P) (bN (S0.o_92 P) (zt30 P) (bL (q118 P)))) (bN (S0.o_44 P) (zt96 P) (zt65 P))) (zt98 P)) (bN (S0.o_3 P) (zt100 P) (zt72 P)))) (bN (boot_o_2 P) (bN (boot_o_4 P) (bN (boot_o_8 P) (zt76 P) (zt102 P)) (bN (q0 P) (bN (S0.o_12 P) (bN (S0.o_31 P) (zt79 P) (zt41 P)) (bN (S0.o_47 P) (zt103 P) (zt80 P))) (zt83 P))) (bN (boot_o_6 P) (bN (boot_o_10 P) (bN (S0.o_10 P) (bN (S0.o_29 P) (zt84 P) (zt45 P)) (bN (S0.o_45 P) (zt104 P) (zt85 P))) (zt106 P)) (bN (S0.o_4 P) (zt108 P) (zt92 P)))))
def q129 := oD 22 [ze0 P, ze1 P, ze2 P, ze3 P, ze4 P, ze5 P, ze6 P, ze7 P, ze8 P, ze9 P, ze10 P, ze11 P, ze12 P, ze13 P, ze14 P, ze15 P, ze16 P, ze17 P, ze18 P, ze19 P, ze20 P, ze21 P]
def q130 := oD 3 [eD P "s" 831 (yS "dd" 821), eD P "substring_i" 833 (.int (-1) 823), eD P "result" 835 (.int (-1) 825)]
def zt111 := bN (S0.o_86 P) (bN (S0.o_150 P) (bL (q63 P)) bZ) (bN (S0.o_304 P) (bL (q130 P)) bZ)
def q131 (P : Params) := oI 347
def zt115 := bN (S0.o_87 P) (bN (S0.o_151 P) (bL (q64 P)) bZ) (bN (S0.o_305 P) (bL (q131 P)) bZ)
def q132 := oK 4 [eD P "self" 826 (.ref 348), eD P "s" 827 (yS "dd" 821), eD P "substring_i" 828 (.int (-1) 823), eD P "result" 829 (.int (-1) 825)]
def zt112 := bN (S0.o_88 P) (bN (S0.o_152 P) (bL (q65 P)) bZ) (bN (S0.o_306 P) (bL (q132 P)) bZ)
def q133 := oD 3 [eD P "s" 846 (yS "kk" 836), eD P "substring_i" 848 (.int (-1) 838), eD P "result" 850 (.int (-1) 840)]
def zt117 := bN (S0.o_89 P) (bN (S0.o_153 P) (bL (q66 P)) bZ) (bN (S0.o_307 P) (bL (q133 P)) bZ)
def q134 (P : Params) := oI 350
def zt109 := bN (S0.o_90 P) (bN (S0.o_154 P) (bL (q67 P)) bZ) (bN (q1 P) (bL (q134 P)) bZ)
def q135 := oK 4 [eD P "self" 841 (.ref 351), eD P "s" 842 (yS "kk" 836), eD P "substring_i" 843 (.int (-1) 838), eD P "result" 844 (.int (-1) 840)]
def zt113 := bN (S0.o_91 P) (bN (S0.o_155 P) (bL (q68 P)) bZ) (bN (q2 P) (bL (q135 P)) bZ)
def q136 := oD 3 [eD P "s" 861 (yS "tt" 851), eD P "substring_i" 863 (.int (-1) 853), eD P "result" 865 (.int (-1) 855)]
def q137 (P : Params) := oI 353
def zt116 := bN (S0.o_93 P) (bN (S0.o_157 P) (bL (q70 P)) bZ) (bN (q4 P) (bL (q137 P)) bZ)
def q138 := oK 4 [eD P "self" 856 (.ref 354), eD P "s" 857 (yS "tt" 851), eD P "substring_i" 858 (.int (-1) 853), eD P "result" 859 (.int (-1) 855)]
def zt110 := bN (S0.o_94 P) (bN (S0.o_158 P) (bL (q71 P)) bZ) (bN (q12 P) (bL (q138 P)) bZ)
def q139 (P : Params) : Obj := ⟨(.type "list"), none, .seq [(.ref 348), (.ref 351), (.ref 354)].toArray 0, [].toArray⟩
def zt114 := bN (S0.o_95 P) (bN (S0.o_159 P) (bL (q72 P)) bZ) (bN (q6 P) (bL (q139 P)) bZ)
def trM3 (P : Params) : BT := (bN (boot_o_0 P) (bN (boot_o_1 P) (bN (S0.o_285 P) (bN (boot_o_7 P) (bN (S0.o_7 P) (bN (S0.o_26 P) (zt53 P) (zt109 P)) (zt55 P)) (zt94 P)) (bN (S0.o_1 P) (bN (S0.o_11 P) (bN (S0.o_30 P) (zt59 P) (zt110 P)) (bN (S0.o_46 P) (zt95 P) (zt60 P))) (bN (S0.o_22 P) (bN (S0.o_38 P) (zt61 P) (zt28 P)) (bN (S0.o_54 P) (zt111 P) (zt62 P))))) (bN (boot_o_5 P) (bN (boot_o_9 P) (bN (S0.o_9 P) (bN (S0.o_28 P) (zt64 P) (bN (S0.o_92 P) (zt30 P) (bN (q129 P) (bL (q136 P)) bZ))) (bN (S0.o_44 P) (zt96 P) (zt65 P))) (zt98 P)) (bN (S0.o_3 P) (zt100 P) (bN (S0.o_24 P) (bN (S0.o_40 P) (zt70 P) (zt36 P)) (bN (S0.o_56 P) (zt112 P) (zt71 P)))))) (bN (boot_o_2 P) (bN (boot_o_4 P) (bN (boot_o_8 P) (bN (S0.o_8 P) (bN (S0.o_27 P) (zt73 P) (zt113 P)) (zt75 P)) (zt102 P)) (bN (q0 P) (bN (S0.o_12 P) (bN (S0.o_31 P) (zt79 P) (zt114 P)) (bN (S0.o_47 P) (zt103 P) (zt80 P))) (bN (S0.o_23 P) (bN (S0.o_39 P) (zt81 P) (zt43 P)) (bN (S0.o_55 P) (zt115 P) (zt82 P))))) (bN (boot_o_6 P) (bN (boot_o_10 P) (bN (S0.o_10 P) (bN (S0.o_29 P) (zt84 P) (zt116 P)) (bN (S0.o_45 P) (zt104 P) (zt85 P))) (zt106 P)) (bN (S0.o_4 P) (zt108 P) (bN (S0.o_25 P) (bN (S0.o_41 P) (zt90 P) (zt51 P)) (bN (S0.o_57 P) (zt117 P) (zt91 P)))))))
def q140 := oD 23 [ze0 P, ze1 P, ze2 P, ze3 P, ze4 P, ze5 P, ze6 P, ze7 P, ze8 P, ze9 P, ze10 P, ze11 P, ze12 P, ze13 P, ze14 P, ze15 P, ze16 P, ze17 P, ze18 P, ze19 P, ze20 P, ze21 P, ze22 P]
def q141 := oD 3 [eD P "s" 876 (yS "ene" 867), eD P "substring_i" 878 (.int (-1) 869), eD P "result" 880 (.int 2 870)]
def zt124 := bN (S0.o_96 P) (bN (S0.o_160 P) (bL (q73 P)) bZ) (bN (q7 P) (bL (q141 P)) bZ)
def q142 (P : Params) := oI 357
def zt132 := bN (S0.o_97 P) (bN (S0.o_161 P) (bL (q74 P)) bZ) (bN (gO0 P) (bL (q142 P)) bZ)
def q143 := oK 4 [eD P "self" 871 (.ref 358), eD P "s" 872 (yS "ene" 867), eD P "substring_i" 873 (.int (-1) 869), eD P "result" 874 (.int 2 870)]
def zt119 := bN (S0.o_98 P) (bN (S0.o_162 P) (bL (q75 P)) bZ) (bN (gO1 P) (bL (q143 P)) bZ)
def q144 := oD 3 [eD P "s" 890 (yS "se" 881), eD P "substring_i" 892 (.int (-1) 883), eD P "result" 894 (.int 3 884)]
def zt127 := bN (S0.o_99 P) (bN (S0.o_163 P) (bL (q76 P)) bZ) (bN (gO2 P) (bL (q144 P)) bZ)
def q145 (P : Params) := oI 360
def zt123 := bN (S0.o_100 P) (bN (S0.o_164 P) (bL (q77 P)) bZ) (bN (q13 P) (bL (q145 P)) bZ)
def q146 := oK 4 [eD P "self" 885 (.ref 361), eD P "s" 886 (yS "se" 881), eD P "substring_i" 887 (.int (-1) 883), eD P "result" 888 (.int 3 884)]
def zt131 := bN (S0.o_101 P) (bN (S0.o_165 P) (bL (q78 P)) bZ) (bN (q14 P) (bL (q146 P)) bZ)
def q147 := oD 3 [eD P "s" 904 (yS "en" 895), eD P "substring_i" 906 (.int (-1) 897), eD P "result" 908 (.int 2 898)]
def zt121 := bN (S0.o_102 P) (bN (S0.o_166 P) (bL (q79 P)) bZ) (bN (q15 P) (bL (q147 P)) bZ)
def q148 (P : Params) := oI 363
def zt129 := bN (S0.o_103 P) (bN (S0.o_167 P) (bL (q80 P)) bZ) (bN (q16 P) (bL (q148 P)) bZ)
def q149 := oK 4 [eD P "self" 899 (.ref 364), eD P "s" 900 (yS "en" 895), eD P "substring_i" 901 (.int (-1) 897), eD P "result" 902 (.int 2 898)]
def zt125 := bN (S0.o_104 P) (bN (S0.o_168 P) (bL (q81 P)) bZ) (bN (q17 P) (bL (q149 P)) bZ)
def q150 := oD 3 [eD P "s" 917 (yS "heden" 909), eD P "substring_i" 919 (.int 2 910), eD P "result" 921 (.int 1 911)]
def zt133 := bN (S0.o_105 P) (bN (S0.o_169 P) (bL (q82 P)) bZ) (bN (q18 P) (bL (q150 P)) bZ)
def q151 (P : Params) := oI 366
def zt118 := bN (S0.o_106 P) (bN (S0.o_170 P) (bL (q84 P)) bZ) (bN (q19 P) (bL (q151 P)) bZ)
def q152 := oK 4 [eD P "self" 912 (.ref 367), eD P "s" 913 (yS "heden" 909), eD P "substring_i" 914 (.int 2 910), eD P "result" 915 (.int 1 911)]
def zt126 := bN (S0.o_107 P) (bN (S0.o_171 P) (bL (q85 P)) bZ) (bN (q20 P) (bL (q152 P)) bZ)
def q153 := oD 3 [eD P "s" 931 (yS "s" 922), eD P "substring_i" 933 (.int (-1) 924), eD P "result" 935 (.int 3 925)]
def zt122 := bN (S0.o_108 P) (bN (S0.o_172 P) (bL (q86 P)) bZ) (bN (q21 P) (bL (q153 P)) bZ)
def q154 (P : Params) := oI 369
def zt130 := bN (S0.o_109 P) (bN (S0.o_173 P) (bL (q87 P)) bZ) (bN (q22 P) (bL (q154 P)) bZ)
def q155 := oK 4 [eD P "self" 926 (.ref 370), eD P "s" 927 (yS "s" 922), eD P "substring_i" 928 (.int (-1) 924), eD P "result" 929 (.int 3 925)]
def zt120 := bN (S0.o_110 P) (bN (S0.o_174 P) (bL (q88 P)) bZ) (bN (q23 P) (bL (q155 P)) bZ)
def q156 (P : Params) : Obj := ⟨(.type "list"), none, .seq [(.ref 358), (.ref 361), (.ref 364), (.ref 367), (.ref 370)].toArray 0, [].toArray⟩
def zt128 := bN (S0.o_111 P) (bN (S0.o_175 P) (bL (q89 P)) bZ) (bN (q24 P) (bL (q156 P)) bZ)
def trM4 (P : Params) : BT := (bN (boot_o_0 P) (bN (boot_o_1 P) (bN (S0.o_285 P) (bN (boot_o_7 P) (bN (S0.o_7 P) (bN (S0.o_26 P) (zt53 P) (zt109 P)) (bN (S0.o_42 P) (zt54 P) (zt118 P))) (bN (S0.o_18 P) (bN (S0.o_34 P) (zt57 P) (zt119 P)) (bN (S0.o_50 P) (zt93 P) (zt58 P)))) (bN (S0.o_1 P) (bN (S0.o_11 P) (bN (S0.o_30 P) (zt59 P) (zt110 P)) (bN (S0.o_46 P) (zt95 P) (zt120 P))) (bN (S0.o_22 P) (bN (S0.o_38 P) (zt61 P) (zt121 P)) (bN (S0.o_54 P) (zt111 P) (zt62 P))))) (bN (boot_o_5 P) (bN (boot_o_9 P) (bN (S0.o_9 P) (bN (S0.o_28 P) (zt64 P) (bN (S0.o_92 P) (zt30 P) (bN (q140 P) (bL (q136 P)) bZ))) (bN (S0.o_44 P) (zt96 P) (zt122 P))) (bN (S0.o_20 P) (bN (S0.o_36 P) (zt66 P) (zt123 P)) (bN (S0.o_52 P) (zt97 P) (zt67 P)))) (bN (S0.o_3 P) (bN (S0.o_13 P) (bN (S0.o_32 P) (zt68 P) (zt124 P)) (bN (S0.o_48 P) (zt99 P) (zt69 P))) (bN (S0.o_24 P) (bN (S0.o_40 P) (zt70 P) (zt125 P)) (bN (S0.o_56 P) (zt112 P) (zt71 P)))))) (bN (boot_o_2 P) (bN (boot_o_4 P) (bN (boot_o_8 P) (bN (S0.o_8 P) (bN (S0.o_27 P) (zt73 P) (zt113 P)) (bN (S0.o_43 P) (zt74 P) (zt126 P))) (bN (S0.o_19 P) (bN (S0.o_35 P) (zt77 P) (zt127 P)) (bN (S0.o_51 P) (zt101 P) (zt78 P)))) (bN (q0 P) (bN (S0.o_12 P) (bN (S0.o_31 P) (zt79 P) (zt114 P)) (bN (S0.o_47 P) (zt103 P) (zt128 P))) (bN (S0.o_23 P) (bN (S0.o_39 P) (zt81 P) (zt129 P)) (bN (S0.o_55 P) (zt115 P) (zt82 P))))) (bN (boot_o_6 P) (bN (boot_o_10 P) (bN (S0.o_10 P) (bN (S0.o_29 P) (zt84 P) (zt116 P)) (bN (S0.o_45 P) (zt104 P) (zt130 P))) (bN (S0.o_21 P) (bN (S0.o_37 P) (zt86 P) (zt131 P)) (bN (S0.o_53 P) (zt105 P) (zt87 P)))) (bN (S0.o_4 P) (bN (S0.o_17 P) (bN (S0.o_33 P) (zt88 P) (zt132 P)) (bN (S0.o_49 P) (zt107 P) (zt89 P))) (bN (S0.o_25 P) (bN (S0.o_41 P) (zt90 P) (zt133 P)) (bN (S0.o_57 P) (zt117 P) (zt91 P)))))))
def q157 := oD 24 [ze0 P, ze1 P, ze2 P, ze3 P, ze4 P, ze5 P, ze6 P, ze7 P, ze8 P, ze9 P, ze10 P, ze11 P, ze12 P, ze13 P, ze14 P, ze15 P, ze16 P, ze17 P, ze18 P, ze19 P, ze20 P, ze21 P, ze22 P, ze23 P]
def q158 := oD 3 [eD P "s" 946 (yS "end" 937), eD P "substring_i" 948 (.int (-1) 939), eD P "result" 950 (.int 1 940)]
def zt147 := bN (S0.o_112 P) (bN (S0.o_176 P) (bL (q90 P)) bZ) (bN (q25 P) (bL (q158 P)) bZ)
def q159 (P : Params) := oI 373
def zt161 := bN (S0.o_113 P) (bN (S0.o_177 P) (bL (q91 P)) bZ) (bN (q26 P) (bL (q159 P)) bZ)
def q160 := oK 4 [eD P "self" 941 (.ref 374), eD P "s" 942 (yS "end" 937), eD P "substring_i" 943 (.int (-1) 939), eD P "result" 944 (.int 1 940)]
def zt138 := bN (S0.o_114 P) (bN (S0.o_178 P) (bL (q92 P)) bZ) (bN (q27 P) (bL (q160 P)) bZ)
def q161 := oD 3 [eD P "s" 960 (yS "ig" 951), eD P "substring_i" 962 (.int (-1) 953), eD P "result" 964 (.int 2 954)]
def zt152 := bN (S0.o_115 P) (bN (S0.o_179 P) (bL (q93 P)) bZ) (bN (q28 P) (bL (q161 P)) bZ)
def q162 (P : Params) := oI 376
def zt145 := bN (S0.o_116 P) (bN (S0.o_180 P) (bL (q94 P)) bZ) (bN (q29 P) (bL (q162 P)) bZ)
def q163 := oK 4 [eD P "self" 955 (.ref 377), eD P "s" 956 (yS "ig" 951), eD P "substring_i" 957 (.int (-1) 953), eD P "result" 958 (.int 2 954)]
def zt158 := bN (S0.o_117 P) (bN (S0.o_181 P) (bL (q95 P)) bZ) (bN (q30 P) (bL (q163 P)) bZ)
def q164 := oD 3 [eD P "s" 974 (yS "ing" 965), eD P "substring_i" 976 (.int (-1) 967), eD P "result" 978 (.int 1 968)]
def zt142 := bN (S0.o_118 P) (bN (S0.o_182 P) (bL (q96 P)) bZ) (bN (q31 P) (bL (q164 P)) bZ)
def q165 (P : Params) := oI 379
def zt155 := bN (S0.o_119 P) (bN (S0.o_183 P) (bL (q97 P)) bZ) (bN (q32 P) (bL (q165 P)) bZ)
def q166 := oK 4 [eD P "self" 969 (.ref 380), eD P "s" 970 (yS "ing" 965), eD P "substring_i" 971 (.int (-1) 967), eD P "result" 972 (.int 1 968)]
def zt149 := bN (S0.o_120 P) (bN (S0.o_184 P) (bL (q98 P)) bZ) (bN (q33 P) (bL (q166 P)) bZ)
def q167 := oD 3 [eD P "s" 988 (yS "lijk" 979), eD P "substring_i" 990 (.int (-1) 981), eD P "result" 992 (.int 3 982)]
def zt163 := bN (S0.o_121 P) (bN (S0.o_185 P) (bL (q99 P)) bZ) (bN (q34 P) (bL (q167 P)) bZ)
def q168 (P : Params) := oI 382
def zt134 := bN (S0.o_122 P) (bL (q35 P)) (bL (q168 P))
def zt135 := bN (S0.o_58 P) (zt134 P) (bN (S0.o_186 P) (bL (q100 P)) bZ)
def q169 := oK 4 [eD P "self" 983 (.ref 383), eD P "s" 984 (yS "lijk" 979), eD P "substring_i" 985 (.int (-1) 981), eD P "result" 986 (.int 3 982)]
def zt150 := bN (S0.o_123 P) (bL (q36 P)) (bL (q169 P))
def zt151 := bN (S0.o_59 P) (zt150 P) (bN (S0.o_187 P) (bL (q101 P)) bZ)
def q170 := oD 3 [eD P "s" 1002 (yS "baar" 993), eD P "substring_i" 1004 (.int (-1) 995), eD P "result" 1006 (.int 4 996)]
def zt143 := bN (S0.o_124 P) (bL (q37 P)) (bL (q170 P))
def zt144 := bN (S0.o_60 P) (zt143 P) (bN (S0.o_188 P) (bL (q102 P)) bZ)
def q171 (P : Params) := oI 385
def zt156 := bN (S0.o_125 P) (bL (q38 P)) (bL (q171 P))
def zt157 := bN (S0.o_61 P) (zt156 P) (bN (S0.o_189 P) (bL (q103 P)) bZ)
def q172 := oK 4 [eD P "self" 997 (.ref 386), eD P "s" 998 (yS "baar" 993), eD P "substring_i" 999 (.int (-1) 995), eD P "result" 1000 (.int 4 996)]
def zt140 := bN (S0.o_126 P) (bL (q39 P)) (bL (q172 P))
def zt141 := bN (S0.o_62 P) (zt140 P) (bN (S0.o_190 P) (bL (q104 P)) bZ)
def q173 := oD 3 [eD P "s" 1016 (yS "bar" 1007), eD P "substring_i" 1018 (.int (-1) 1009), eD P "result" 1020 (.int 5 1010)]
def zt153 := bN (S0.o_127 P) (bL (q40 P)) (bL (q173 P))
def zt154 := bN (S0.o_63 P) (zt153 P) (bN (S0.o_191 P) (bL (q105 P)) bZ)
def q174 (P : Params) := oI 388
def zt146 := bN (S0.o_128 P) (bL (q41 P)) (bL (q174 P))
def zt148 := bN (S0.o_13 P) (bN (S0.o_32 P) (bN (S0.o_64 P) (zt146 P) (bN (S0.o_192 P) (bL (q106 P)) bZ)) (zt124 P)) (bN (S0.o_48 P) (zt99 P) (zt147 P))
def q175 := oK 4 [eD P "self" 1011 (.ref 389), eD P "s" 1012 (yS "bar" 1007), eD P "substring_i" 1013 (.int (-1) 1009), eD P "result" 1014 (.int 5 1010)]
def zt159 := bN (S0.o_129 P) (bL (q42 P)) (bL (q175 P))
def zt160 := bN (S0.o_65 P) (zt159 P) (bN (S0.o_193 P) (bL (q107 P)) bZ)
def zt162 := bN (S0.o_17 P) (bN (S0.o_33 P) (zt160 P) (zt132 P)) (bN (S0.o_49 P) (zt107 P) (zt161 P))
def q176 (P : Params) : Obj := ⟨(.type "list"), none, .seq [(.ref 374), (.ref 377), (.ref 380), (.ref 383), (.ref 386), (.ref 389)].toArray 0, [].toArray⟩
def zt136 := bN (S0.o_130 P) (bL (q43 P)) (bL (q176 P))
def zt137 := bN (S0.o_66 P) (zt136 P) (bN (S0.o_194 P) (bL (q108 P)) bZ)
def zt139 := bN (S0.o_18 P) (bN (S0.o_34 P) (zt137 P) (zt119 P)) (bN (S0.o_50 P) (zt93 P) (zt138 P))
def trM5 (P : Params) : BT := (bN (boot_o_0 P) (bN (boot_o_1 P) (bN (S0.o_285 P) (bN (boot_o_7 P) (bN (S0.o_7 P) (bN (S0.o_26 P) (zt135 P) (zt109 P)) (bN (S0.o_42 P) (zt54 P) (zt118 P))) (zt139 P)) (bN (S0.o_1 P) (bN (S0.o_11 P) (bN (S0.o_30 P) (zt141 P) (zt110 P)) (bN (S0.o_46 P) (zt95 P) (zt120 P))) (bN (S0.o_22 P) (bN (S0.o_38 P) (zt61 P) (zt121 P)) (bN (S0.o_54 P) (zt111 P) (zt142 P))))) (bN (boot_o_5 P) (bN (boot_o_9 P) (bN (S0.o_9 P) (bN (S0.o_28 P) (zt144 P) (bN (S0.o_92 P) (zt30 P) (bN (q157 P) (bL (q136 P)) bZ))) (bN (S0.o_44 P) (zt96 P) (zt122 P))) (bN (S0.o_20 P) (bN (S0.o_36 P) (zt66 P) (zt123 P)) (bN (S0.o_52 P) (zt97 P) (zt145 P)))) (bN (S0.o_3 P) (zt148 P) (bN (S0.o_24 P) (bN (S0.o_40 P) (zt70 P) (zt125 P)) (bN (S0.o_56 P) (zt112 P) (zt149 P)))))) (bN (boot_o_2 P) (bN (boot_o_4 P) (bN (boot_o_8 P) (bN (S0.o_8 P) (bN (S0.o_27 P) (zt151 P) (zt113 P)) (bN (S0.o_43 P) (zt74 P) (zt126 P))) (bN (S0.o_19 P) (bN (S0.o_35 P) (zt77 P) (zt127 P)) (bN (S0.o_51 P) (zt101 P) (zt152 P)))) (bN (q0 P) (bN (S0.o_12 P) (bN (S0.o_31 P) (zt154 P) (zt114 P)) (bN (S0.o_47 P) (zt103 P) (zt128 P))) (bN (S0.o_23 P) (bN (S0.o_39 P) (zt81 P) (zt129 P)) (bN (S0.o_55 P) (zt115 P) (zt155 P))))) (bN (boot_o_6 P) (bN (boot_o_10 P) (bN (S0.o_10 P) (bN (S0.o_29 P) (zt157 P) (zt116 P)) (bN (S0.o_45 P) (zt104 P) (zt130 P))) (bN (S0.o_21 P) (bN (S0.o_37 P) (zt86 P) (zt131 P)) (bN (S0.o_53 P) (zt105 P) (zt158 P)))) (bN (S0.o_4 P) (zt162 P) (bN (S0.o_25 P) (bN (S0.o_41 P) (zt90 P) (zt133 P)) (bN (S0.o_57 P) (zt117 P) (zt163 P)))))))
def q177 := oD 25 [ze0 P, ze1 P, ze2 P, ze3 P, ze4 P, ze5 P, ze6 P, ze7 P, ze8 P, ze9 P, ze10 P, ze11 P, ze12 P, ze13 P, ze14 P, ze15 P, ze16 P, ze17 P, ze18 P, ze19 P, ze20 P, ze21 P, ze22 P, ze23 P, eD P "a_5" 1082 (.ref 404)]
def q178 := oD 3 [eD P "s" 1032 (yS "aa" 1022), eD P "substring_i" 1034 (.int (-1) 1024), eD P "result" 1036 (.int (-1) 1026)]
def zt182 := bN (S0.o_131 P) (bL (q44 P)) (bL (q178 P))
def zt183 := bN (S0.o_67 P) (zt182 P) (bN (S0.o_195 P) (bL (q109 P)) bZ)
def q179 (P : Params) := oI 392
def zt174 := bN (S0.o_132 P) (bL (q45 P)) (bL (q179 P))
def zt175 := bN (S0.o_68 P) (zt174 P) (bN (S0.o_196 P) (bL (q110 P)) bZ)
def q180 := oK 4 [eD P "self" 1027 (.ref 393), eD P "s" 1028 (yS "aa" 1022), eD P "substring_i" 1029 (.int (-1) 1024), eD P "result" 1030 (.int (-1) 1026)]
def zt191 := bN (S0.o_133 P) (bL (q46 P)) (bL (q180 P))
def zt192 := bN (S0.o_69 P) (zt191 P) (bN (S0.o_287 P) (bL (q111 P)) bZ)
def q181 := oD 3 [eD P "s" 1047 (yS "ee" 1037), eD P "substring_i" 1049 (.int (-1) 1039), eD P "result" 1051 (.int (-1) 1041)]
def zt169 := bN (S0.o_134 P) (bL (q47 P)) (bL (q181 P))
def zt170 := bN (S0.o_70 P) (zt169 P) (bN (S0.o_288 P) (bL (q112 P)) bZ)
def q182 (P : Params) := oI 395
def zt186 := bN (S0.o_135 P) (bL (q48 P)) (bL (q182 P))
def zt187 := bN (S0.o_71 P) (zt186 P) (bN (S0.o_289 P) (bL (q113 P)) bZ)
def q183 := oK 4 [eD P "self" 1042 (.ref 396), eD P "s" 1043 (yS "ee" 1037), eD P "substring_i" 1044 (.int (-1) 1039), eD P "result" 1045 (.int (-1) 1041)]
def zt176 := bN (S0.o_136 P) (bL (q49 P)) (bL (q183 P))
def zt177 := bN (S0.o_72 P) (zt176 P) (bN (S0.o_290 P) (bL (q114 P)) bZ)
def zt178 := bN (S0.o_24 P) (bN (S0.o_40 P) (zt177 P) (zt125 P)) (bN (S0.o_56 P) (zt112 P) (zt149 P))
def q184 := oD 3 [eD P "s" 1062 (yS "oo" 1052), eD P "substring_i" 1064 (.int (-1) 1054), eD P "result" 1066 (.int (-1) 1056)]
def zt194 := bN (S0.o_137 P) (bL (q50 P)) (bL (q184 P))
def zt195 := bN (S0.o_73 P) (zt194 P) (bN (S0.o_291 P) (bL (q115 P)) bZ)
def zt196 := bN (S0.o_25 P) (bN (S0.o_41 P) (zt195 P) (zt133 P)) (bN (S0.o_57 P) (zt117 P) (zt163 P))
def q185 (P : Params) := oI 398
def zt164 := bN (S0.o_138 P) (bL (q51 P)) (bL (q185 P))
def zt165 := bN (S0.o_74 P) (zt164 P) (bN (S0.o_292 P) (bL (q116 P)) bZ)
def zt166 := bN (S0.o_7 P) (bN (S0.o_26 P) (zt135 P) (zt109 P)) (bN (S0.o_42 P) (zt165 P) (zt118 P))
def q186 := oK 4 [eD P "self" 1057 (.ref 399), eD P "s" 1058 (yS "oo" 1052), eD P "substring_i" 1059 (.int (-1) 1054), eD P "result" 1060 (.int (-1) 1056)]
def zt179 := bN (S0.o_139 P) (bL (q52 P)) (bL (q186 P))
def zt180 := bN (S0.o_75 P) (zt179 P) (bN (S0.o_293 P) (bL (q117 P)) bZ)
def zt181 := bN (S0.o_8 P) (bN (S0.o_27 P) (zt151 P) (zt113 P)) (bN (S0.o_43 P) (zt180 P) (zt126 P))
def q187 := oD 3 [eD P "s" 1077 (yS "uu" 1067), eD P "substring_i" 1079 (.int (-1) 1069), eD P "result" 1081 (.int (-1) 1071)]
def zt172 := bN (S0.o_140 P) (bL (q53 P)) (bL (q187 P))
def zt173 := bN (S0.o_76 P) (zt172 P) (bN (S0.o_294 P) (bL (q119 P)) bZ)
def q188 (P : Params) := oI 401
def zt189 := bN (S0.o_141 P) (bL (q54 P)) (bL (q188 P))
def zt190 := bN (S0.o_77 P) (zt189 P) (bN (S0.o_295 P) (bL (q120 P)) bZ)
def zt193 := bN (boot_o_10 P) (bN (S0.o_10 P) (bN (S0.o_29 P) (zt157 P) (zt116 P)) (bN (S0.o_45 P) (zt190 P) (zt130 P))) (bN (S0.o_21 P) (bN (S0.o_37 P) (zt192 P) (zt131 P)) (bN (S0.o_53 P) (zt105 P) (zt158 P)))
def q189 := oK 4 [eD P "self" 1072 (.ref 402), eD P "s" 1073 (yS "uu" 1067), eD P "substring_i" 1074 (.int (-1) 1069), eD P "result" 1075 (.int (-1) 1071)]
def zt167 := bN (S0.o_142 P) (bL (q55 P)) (bL (q189 P))
def zt168 := bN (S0.o_78 P) (zt167 P) (bN (S0.o_296 P) (bL (q121 P)) bZ)
def zt171 := bN (S0.o_1 P) (bN (S0.o_11 P) (bN (S0.o_30 P) (zt141 P) (zt110 P)) (bN (S0.o_46 P) (zt168 P) (zt120 P))) (bN (S0.o_22 P) (bN (S0.o_38 P) (zt170 P) (zt121 P)) (bN (S0.o_54 P) (zt111 P) (zt142 P)))
def q190 (P : Params) : Obj := ⟨(.type "list"), none, .seq [(.ref 393), (.ref 396), (.ref 399), (.ref 402)].toArray 0, [].toArray⟩
def zt184 := bN (S0.o_143 P) (bL (q56 P)) (bL (q190 P))
def zt185 := bN (S0.o_79 P) (zt184 P) (bN (S0.o_297 P) (bL (q122 P)) bZ)
def zt188 := bN (q0 P) (bN (S0.o_12 P) (bN (S0.o_31 P) (zt154 P) (zt114 P)) (bN (S0.o_47 P) (zt185 P) (zt128 P))) (bN (S0.o_23 P) (bN (S0.o_39 P) (zt187 P) (zt129 P)) (bN (S0.o_55 P) (zt115 P) (zt155 P)))
def trM6 (P : Params) : BT := (bN (boot_o_0 P) (bN (boot_o_1 P) (bN (S0.o_285 P) (bN (boot_o_7 P) (zt166 P) (zt139 P)) (zt171 P)) (bN (boot_o_5 P) (bN (boot_o_9 P) (bN (S0.o_9 P) (bN (S0.o_28 P) (zt144 P) (bN (S0.o_92 P) (zt30 P) (bN (q177 P) (bL (q136 P)) bZ))) (bN (S0.o_44 P) (zt173 P) (zt122 P))) (bN (S0.o_20 P) (bN (S0.o_36 P) (zt175 P) (zt123 P)) (bN (S0.o_52 P) (zt97 P) (zt145 P)))) (bN (S0.o_3 P) (zt148 P) (zt178 P)))) (bN (boot_o_2 P) (bN (boot_o_4 P) (bN (boot_o_8 P) (zt181 P) (bN (S0.o_19 P) (bN (S0.o_35 P) (zt183 P) (zt127 P)) (bN (S0.o_51 P) (zt101 P) (zt152 P)))) (zt188 P)) (bN (boot_o_6 P) (zt193 P) (bN (S0.o_4 P) (zt162 P) (zt196 P)))))
def q191 := oD 13 [eD P "__name__" 165 yM, ze24 P, ze25 P, ze26 P, ze27 P, ze28 P, ze29 P, ze30 P, ze31 P, ze32 P, ze33 P, ze34 P, ze35 P]
def q192 (P : Params) : Obj := ⟨(.type "type"), none, .cls { name := (.ofString "BaseStemmer"), bases := [(.type "object")], mro := [(.ref 197), (.type "object")], ns := 196, qualname := (.ofString "BaseStemmer"), hasDict := true, slotNames := [], subclasses := [(.ref 407)], abstract := false, collection := none, hasDel := false }, [none, none, some (yS "BaseStemmer" 196), some (yS "BaseStemmer" 204), some (.builtin "object.__new__"), some (.bool true)].toArray⟩
def zt201 := bN (S0.o_64 P) (zt146 P) (bN (q192 P) (bL (q106 P)) bZ)
def q193 := oD 26 [ze0 P, ze1 P, ze2 P, ze3 P, ze4 P, ze5 P, ze6 P, ze7 P, ze8 P, ze9 P, ze10 P, ze11 P, ze12 P, ze13 P, ze14 P, ze15 P, ze16 P, ze17 P, ze18 P, ze19 P, ze20 P, ze21 P, ze22 P, ze23 P, eD P "a_5" 1082 (.ref 404), eD P "__static_attributes__" 1090 (.ref 405)]
def q194 (P : Params) := oT [(yS "B_e_found" 1083), (yS "I_p1" 1084), (yS "I_p2" 1085), (yS "bra" 1086), (yS "cursor" 1087), (yS "ket" 1088), (yS "limit_backward" 1089)]
def zt202 := bN (S0.o_144 P) (bL (q57 P)) (bL (q194 P))
def zt203 := bN (S0.o_80 P) (zt202 P) (bN (S0.o_298 P) (bL (q123 P)) bZ)
def q195 := oD 2 [ze0 P, ze2 P, ze3 P, ze4 P, ze5 P, ze6 P, ze7 P, ze8 P, ze9 P, ze10 P, ze11 P, ze12 P, ze13 P, ze14 P, ze15 P, ze16 P, ze17 P, ze18 P, ze19 P, ze20 P, ze21 P, ze22 P, ze23 P, eD P "a_5" 1082 (.ref 404), eD P "__static_attributes__" 1090 (.ref 405), eD P "__doc__" 1091 .none]
def zt206 := bN (S0.o_145 P) (bL (q58 P)) (bL (q195 P))
def zt207 := bN (S0.o_81 P) (zt206 P) (bN (S0.o_299 P) (bL (q124 P)) bZ)
def q196 (P : Params) : Obj := ⟨(.type "type"), none, .cls { name := (.ofString "DutchPorterStemmer"), bases := [(.ref 197)], mro := [(.ref 407), (.ref 197), (.type "object")], ns := 406, qualname := (.ofString "DutchPorterStemmer"), hasDict := true, slotNames := [], subclasses := [], abstract := false, collection := none, hasDel := false }, [some (.ref 223), none, some (yS "DutchPorterStemmer" 473), some (yS "DutchPorterStemmer" 481), some (.builtin "object.__new__"), some (.bool true)].toArray⟩
def zt197 := bN (S0.o_146 P) (bL (q59 P)) (bL (q196 P))
def zt198 := bN (S0.o_82 P) (zt197 P) (bN (S0.o_300 P) (bL (q125 P)) bZ)
def q197 (P : Params) : Obj := ⟨(.type "super"), none, .fields [(.ref 407), (.ref 407), (.ref 407)].toArray, [].toArray⟩
def zt204 := bN (S0.o_147 P) (bL (q60 P)) (bL (q197 P))
def zt205 := bN (S0.o_83 P) (zt204 P) (bN (S0.o_301 P) (bL (q126 P)) bZ)
def q198 (P : Params) : Obj := ⟨(.type "builtin_function_or_method"), none, .fields [(.builtin "object.__init_subclass__"), (.ref 407)].toArray, [].toArray⟩
def zt199 := bN (S0.o_148 P) (bL (q61 P)) (bL (q198 P))
def zt200 := bN (S0.o_84 P) (zt199 P) (bN (S0.o_302 P) (bL (q127 P)) bZ)
def trC (P : Params) : BT := (bN (boot_o_0 P) (bN (boot_o_1 P) (bN (q191 P) (bN (boot_o_7 P) (zt166 P) (bN (S0.o_18 P) (bN (S0.o_34 P) (zt137 P) (zt119 P)) (bN (S0.o_50 P) (zt198 P) (zt138 P)))) (zt171 P)) (bN (boot_o_5 P) (bN (boot_o_9 P) (bN (S0.o_9 P) (bN (S0.o_28 P) (zt144 P) (bN (S0.o_92 P) (zt30 P) (bN (q193 P) (bL (q136 P)) bZ))) (bN (S0.o_44 P) (zt173 P) (zt122 P))) (bN (S0.o_20 P) (bN (S0.o_36 P) (zt175 P) (zt123 P)) (bN (S0.o_52 P) (zt200 P) (zt145 P)))) (bN (S0.o_3 P) (bN (S0.o_13 P) (bN (S0.o_32 P) (zt201 P) (zt124 P)) (bN (S0.o_48 P) (zt203 P) (zt147 P))) (zt178 P)))) (bN (boot_o_2 P) (bN (boot_o_4 P) (bN (boot_o_8 P) (zt181 P) (bN (S0.o_19 P) (bN (S0.o_35 P) (zt183 P) (zt127 P)) (bN (S0.o_51 P) (zt205 P) (zt152 P)))) (zt188 P)) (bN (boot_o_6 P) (zt193 P) (bN (S0.o_4 P) (bN (S0.o_17 P) (bN (S0.o_33 P) (zt160 P) (zt132 P)) (bN (S0.o_49 P) (zt207 P) (zt161 P))) (zt196 P)))))
def q199 (P : Params) : Obj := ⟨.none, none, .dict [ze36 P, eD P "type.__subclasses__.Exception.n" 1111 (zI 2), ze37 P].toArray 3, [].toArray⟩
def q200 := oD 15 [eD P "__name__" 165 yM, ze24 P, ze25 P, ze26 P, ze27 P, ze28 P, ze29 P, ze30 P, ze31 P, ze32 P, ze33 P, ze34 P, ze35 P, ze38 P, ze39 P]
def q201 (P : Params) := oF [(zI 1), (zI 0), (.ref 20), (zI 5), (zI 0), (.ref 27), (zI 203), (zI 0), (.ref 207), (zI 210), (zI 0), (.ref 228), (zI 565), (zI 0), (.ref 415), (zI 567), (zI 0), (.ref 428)]
def q202 (P : Params) := oT [(.type "Exception")]
def zt252 := bN (S0.o_149 P) (bL (q62 P)) (bL (q202 P))
def zt253 := bN (S0.o_85 P) (zt252 P) (bN (S0.o_303 P) (bL (q128 P)) bZ)
def q203 (P : Params) : Obj := ⟨(.type "builtin_function_or_method"), none, .fields [(.builtin "type.__prepare__"), (.type "type")].toArray, [].toArray⟩
def zt220 := bN (S0.o_150 P) (bL (q63 P)) (bL (q203 P))
def zt221 := bN (S0.o_86 P) (zt220 P) (bN (S0.o_304 P) (bL (q130 P)) bZ)
def q204 := oD 4 [eD P "__module__" 1101 yM, eD P "__qualname__" 1103 (yS "lab0" 1102), eD P "__firstlineno__" 1105 (.int 565 1104), eD P "__static_attributes__" 1106 (.ref 417)]
def zt244 := bN (S0.o_151 P) (bL (q64 P)) (bL (q204 P))
def zt245 := bN (S0.o_87 P) (zt244 P) (bN (S0.o_305 P) (bL (q131 P)) bZ)
def q205 (P : Params) := oT []
def zt232 := bN (S0.o_152 P) (bL (q65 P)) (bL (q205 P))
def zt233 := bN (S0.o_88 P) (zt232 P) (bN (S0.o_306 P) (bL (q132 P)) bZ)
def q206 (P : Params) := oF []
def zt258 := bN (S0.o_153 P) (bL (q66 P)) (bL (q206 P))
def zt259 := bN (S0.o_89 P) (zt258 P) (bN (S0.o_307 P) (bL (q133 P)) bZ)
def q207 (P : Params) := oC [(yS "lab0" 1096), (yS "lab0" 1097), (yP 1098), (zI 565), (zI 0), (zI 0), (zI 0), (zI 0), (.ref 413), (.bool false), (zI 181), (.ref 414), .none, .none, .none, .none, (zI 1099), (zI 565), (yP 1100)]
def zt208 := bN (S0.o_154 P) (bL (q67 P)) (bL (q207 P))
def zt209 := bN (S0.o_90 P) (zt208 P) (bN (q1 P) (bL (q134 P)) bZ)
def q208 (P : Params) : Obj := ⟨(.type "frame"), none, .plain, [some (.ref 415), some (.ref 3), some (.ref 412), none, some yM, none, some (.ref 0)].toArray⟩
def zt234 := bN (S0.o_155 P) (bL (q68 P)) (bL (q208 P))
def zt235 := bN (S0.o_91 P) (zt234 P) (bN (q2 P) (bL (q135 P)) bZ)
def q209 (P : Params) := oT []
def zt222 := bN (S0.o_156 P) (bL (q69 P)) (bL (q209 P))
def zt223 := bN (S0.o_92 P) (zt222 P) (bN (q193 P) (bL (q136 P)) bZ)
def q210 := oD 3 [eD P "__module__" 1101 yM, eD P "__firstlineno__" 1105 (.int 565 1104), eD P "__static_attributes__" 1106 (.ref 417), eD P "__weakref__" 1108 (.ref 420), eD P "__doc__" 1109 .none]
def zt246 := bN (S0.o_157 P) (bL (q70 P)) (bL (q210 P))
def zt247 := bN (S0.o_93 P) (zt246 P) (bN (q4 P) (bL (q137 P)) bZ)
def q211 (P : Params) : Obj := ⟨(.type "type"), none, .cls { name := (.ofString "lab0"), bases := [(.type "Exception")], mro := [(.ref 419), (.type "Exception"), (.type "BaseException"), (.type "object")], ns := 418, qualname := (.ofString "lab0"), hasDict := true, slotNames := [], subclasses := [], abstract := false, collection := none, hasDel := false }, [some (.ref 410), none, some (yS "lab0" 1094), some (yS "lab0" 1102), some (.builtin "Exception.__new__"), some (.bool true)].toArray⟩
def zt214 := bN (S0.o_158 P) (bL (q71 P)) (bL (q211 P))
def zt215 := bN (S0.o_94 P) (zt214 P) (bN (q12 P) (bL (q138 P)) bZ)
def q212 (P : Params) : Obj := ⟨(.type "getset_descriptor"), none, .fields [(yS "__weakref__" 1107), (.ref 419), (.builtin "ExceptionGroup.__weakref__"), .none].toArray, [].toArray⟩
def zt240 := bN (S0.o_159 P) (bL (q72 P)) (bL (q212 P))
def zt241 := bN (S0.o_95 P) (zt240 P) (bN (q6 P) (bL (q139 P)) bZ)
def q213 (P : Params) : Obj := ⟨(.type "super"), none, .fields [(.ref 419), (.ref 419), (.ref 419)].toArray, [].toArray⟩
def zt228 := bN (S0.o_160 P) (bL (q73 P)) (bL (q213 P))
def zt229 := bN (S0.o_96 P) (zt228 P) (bN (q7 P) (bL (q141 P)) bZ)
def q214 (P : Params) : Obj := ⟨(.type "builtin_function_or_method"), none, .fields [(.builtin "object.__init_subclass__"), (.ref 419)].toArray, [].toArray⟩
def zt254 := bN (S0.o_161 P) (bL (q74 P)) (bL (q214 P))
def zt255 := bN (S0.o_97 P) (zt254 P) (bN (gO0 P) (bL (q142 P)) bZ)
def q215 (P : Params) := oT [(.type "Exception")]
def zt212 := bN (S0.o_162 P) (bL (q75 P)) (bL (q215 P))
def zt213 := bN (S0.o_98 P) (zt212 P) (bN (gO1 P) (bL (q143 P)) bZ)
def q216 (P : Params) : Obj := ⟨(.type "builtin_function_or_method"), none, .fields [(.builtin "type.__prepare__"), (.type "type")].toArray, [].toArray⟩
def zt238 := bN (S0.o_163 P) (bL (q76 P)) (bL (q216 P))
def zt239 := bN (S0.o_99 P) (zt238 P) (bN (gO2 P) (bL (q144 P)) bZ)
def q217 := oD 4 [eD P "__module__" 1121 yM, eD P "__qualname__" 1123 (yS "lab1" 1122), eD P "__firstlineno__" 1125 (.int 567 1124), eD P "__static_attributes__" 1126 (.ref 430)]
def zt226 := bN (S0.o_164 P) (bL (q77 P)) (bL (q217 P))
def zt227 := bN (S0.o_100 P) (zt226 P) (bN (q13 P) (bL (q145 P)) bZ)
def q218 (P : Params) := oT []
def zt250 := bN (S0.o_165 P) (bL (q78 P)) (bL (q218 P))
def zt251 := bN (S0.o_101 P) (zt250 P) (bN (q14 P) (bL (q146 P)) bZ)
def q219 (P : Params) := oF []
def zt218 := bN (S0.o_166 P) (bL (q79 P)) (bL (q219 P))
def zt219 := bN (S0.o_102 P) (zt218 P) (bN (q15 P) (bL (q147 P)) bZ)
def q220 (P : Params) := oC [(yS "lab1" 1116), (yS "lab1" 1117), (yP 1118), (zI 567), (zI 0), (zI 0), (zI 0), (zI 0), (.ref 426), (.bool false), (zI 181), (.ref 427), .none, .none, .none, .none, (zI 1119), (zI 567), (yP 1120)]
def zt242 := bN (S0.o_167 P) (bL (q80 P)) (bL (q220 P))
def zt243 := bN (S0.o_103 P) (zt242 P) (bN (q16 P) (bL (q148 P)) bZ)
def q221 (P : Params) : Obj := ⟨(.type "frame"), none, .plain, [some (.ref 428), some (.ref 3), some (.ref 425), none, some yM, none, some (.ref 0)].toArray⟩
def zt230 := bN (S0.o_168 P) (bL (q81 P)) (bL (q221 P))
def zt231 := bN (S0.o_104 P) (zt230 P) (bN (q17 P) (bL (q149 P)) bZ)
def q222 (P : Params) := oT []
def zt256 := bN (S0.o_169 P) (bL (q82 P)) (bL (q222 P))
def zt257 := bN (S0.o_105 P) (zt256 P) (bN (q18 P) (bL (q150 P)) bZ)
def q223 := oD 3 [eD P "__module__" 1121 yM, eD P "__firstlineno__" 1125 (.int 567 1124), eD P "__static_attributes__" 1126 (.ref 430), eD P "__weakref__" 1128 (.ref 433), eD P "__doc__" 1129 .none]
def zt210 := bN (S0.o_170 P) (bL (q84 P)) (bL (q223 P))
def zt211 := bN (S0.o_106 P) (zt210 P) (bN (q19 P) (bL (q151 P)) bZ)
def q224 (P : Params) : Obj := ⟨(.type "type"), none, .cls { name := (.ofString "lab1"), bases := [(.type "Exception")], mro := [(.ref 432), (.type "Exception"), (.type "BaseException"), (.type "object")], ns := 431, qualname := (.ofString "lab1"), hasDict := true, slotNames := [], subclasses := [], abstract := false, collection := none, hasDel := false }, [some (.ref 423), none, some (yS "lab1" 1114), some (yS "lab1" 1122), some (.builtin "Exception.__new__"), some (.bool true)].toArray⟩
def zt236 := bN (S0.o_171 P) (bL (q85 P)) (bL (q224 P))
def zt237 := bN (S0.o_107 P) (zt236 P) (bN (q20 P) (bL (q152 P)) bZ)
def q225 (P : Params) : Obj := ⟨(.type "getset_descriptor"), none, .fields [(yS "__weakref__" 1127), (.ref 432), (.builtin "ExceptionGroup.__weakref__"), .none].toArray, [].toArray⟩
def zt224 := bN (S0.o_172 P) (bL (q86 P)) (bL (q225 P))
def zt225 := bN (S0.o_108 P) (zt224 P) (bN (q21 P) (bL (q153 P)) bZ)
def q226 (P : Params) : Obj := ⟨(.type "super"), none, .fields [(.ref 432), (.ref 432), (.ref 432)].toArray, [].toArray⟩
def zt248 := bN (S0.o_173 P) (bL (q87 P)) (bL (q226 P))
def zt249 := bN (S0.o_109 P) (zt248 P) (bN (q22 P) (bL (q154 P)) bZ)
def q227 (P : Params) : Obj := ⟨(.type "builtin_function_or_method"), none, .fields [(.builtin "object.__init_subclass__"), (.ref 432)].toArray, [].toArray⟩
def zt216 := bN (S0.o_174 P) (bL (q88 P)) (bL (q227 P))
def zt217 := bN (S0.o_110 P) (zt216 P) (bN (q23 P) (bL (q155 P)) bZ)
def trG0 (P : Params) : BT := (bN (boot_o_0 P) (bN (boot_o_1 P) (bN (q200 P) (bN (boot_o_7 P) (bN (S0.o_7 P) (bN (S0.o_26 P) (zt135 P) (zt209 P)) (bN (S0.o_42 P) (zt165 P) (zt211 P))) (bN (S0.o_18 P) (bN (S0.o_34 P) (zt137 P) (zt213 P)) (bN (S0.o_50 P) (zt198 P) (zt138 P)))) (bN (S0.o_1 P) (bN (S0.o_11 P) (bN (S0.o_30 P) (zt141 P) (zt215 P)) (bN (S0.o_46 P) (zt168 P) (zt217 P))) (bN (S0.o_22 P) (bN (S0.o_38 P) (zt170 P) (zt219 P)) (bN (S0.o_54 P) (zt221 P) (zt142 P))))) (bN (boot_o_5 P) (bN (boot_o_9 P) (bN (S0.o_9 P) (bN (S0.o_28 P) (zt144 P) (zt223 P)) (bN (S0.o_44 P) (zt173 P) (zt225 P))) (bN (S0.o_20 P) (bN (S0.o_36 P) (zt175 P) (zt227 P)) (bN (S0.o_52 P) (zt200 P) (zt145 P)))) (bN (S0.o_3 P) (bN (S0.o_13 P) (bN (S0.o_32 P) (zt201 P) (zt229 P)) (bN (S0.o_48 P) (zt203 P) (zt147 P))) (bN (S0.o_24 P) (bN (S0.o_40 P) (zt177 P) (zt231 P)) (bN (S0.o_56 P) (zt233 P) (zt149 P)))))) (bN (q199 P) (bN (boot_o_4 P) (bN (boot_o_8 P) (bN (S0.o_8 P) (bN (S0.o_27 P) (zt151 P) (zt235 P)) (bN (S0.o_43 P) (zt180 P) (zt237 P))) (bN (S0.o_19 P) (bN (S0.o_35 P) (zt183 P) (zt239 P)) (bN (S0.o_51 P) (zt205 P) (zt152 P)))) (bN (q201 P) (bN (S0.o_12 P) (bN (S0.o_31 P) (zt154 P) (zt241 P)) (bN (S0.o_47 P) (zt185 P) (zt128 P))) (bN (S0.o_23 P) (bN (S0.o_39 P) (zt187 P) (zt243 P)) (bN (S0.o_55 P) (zt245 P) (zt155 P))))) (bN (boot_o_6 P) (bN (boot_o_10 P) (bN (S0.o_10 P) (bN (S0.o_29 P) (zt157 P) (zt247 P)) (bN (S0.o_45 P) (zt190 P) (zt249 P))) (bN (S0.o_21 P) (bN (S0.o_37 P) (zt192 P) (zt251 P)) (bN (S0.o_53 P) (zt253 P) (zt158 P)))) (bN (S0.o_4 P) (bN (S0.o_17 P) (bN (S0.o_33 P) (zt160 P) (zt255 P)) (bN (S0.o_49 P) (zt207 P) (zt161 P))) (bN (S0.o_25 P) (bN (S0.o_41 P) (zt195 P) (zt257 P)) (bN (S0.o_57 P) (zt259 P) (zt163 P)))))))
def q228 (P : Params) : Obj := ⟨.none, none, .dict [ze36 P, eD P "type.__subclasses__.Exception.n" 1111 (zI 4), ze37 P, eD P "type.__subclasses__.Exception.2" 1150 (zI 445), eD P "type.__subclasses__.Exception.3" 1170 (zI 458)].toArray 5, [].toArray⟩
def q229 := oD 17 [eD P "__name__" 165 yM, ze24 P, ze25 P, ze26 P, ze27 P, ze28 P, ze29 P, ze30 P, ze31 P, ze32 P, ze33 P, ze34 P, ze35 P, ze38 P, ze39 P, ze40 P, ze41 P]
def q230 (P : Params) := oF [(zI 1), (zI 0), (.ref 20), (zI 5), (zI 0), (.ref 27), (zI 203), (zI 0), (.ref 207), (zI 210), (zI 0), (.ref 228), (zI 565), (zI 0), (.ref 415), (zI 567), (zI 0), (.ref 428), (zI 569), (zI 0), (.ref 441), (zI 571), (zI 0), (.ref 454)]
def q231 (P : Params) := oT [(.type "Exception")]
def zt286 := bN (S0.o_175 P) (bL (q89 P)) (bL (q231 P))
def zt287 := bN (S0.o_111 P) (zt286 P) (bN (q24 P) (bL (q156 P)) bZ)
def q232 (P : Params) : Obj := ⟨(.type "builtin_function_or_method"), none, .fields [(.builtin "type.__prepare__"), (.type "type")].toArray, [].toArray⟩
def zt275 := bN (S0.o_176 P) (bL (q90 P)) (bL (q232 P))
def zt276 := bN (S0.o_112 P) (zt275 P) (bN (q25 P) (bL (q158 P)) bZ)
def q233 := oD 4 [eD P "__module__" 1141 yM, eD P "__qualname__" 1143 (yS "lab2" 1142), eD P "__firstlineno__" 1145 (.int 569 1144), eD P "__static_attributes__" 1146 (.ref 443)]
def zt298 := bN (S0.o_177 P) (bL (q91 P)) (bL (q233 P))
def zt299 := bN (S0.o_113 P) (zt298 P) (bN (q26 P) (bL (q159 P)) bZ)
def q234 (P : Params) := oT []
def zt262 := bN (S0.o_178 P) (bL (q92 P)) (bL (q234 P))
def zt263 := bN (S0.o_114 P) (zt262 P) (bN (q27 P) (bL (q160 P)) bZ)
def q235 (P : Params) := oF []
def zt283 := bN (S0.o_179 P) (bL (q93 P)) (bL (q235 P))
def zt284 := bN (S0.o_115 P) (zt283 P) (bN (q28 P) (bL (q161 P)) bZ)
def q236 (P : Params) := oC [(yS "lab2" 1136), (yS "lab2" 1137), (yP 1138), (zI 569), (zI 0), (zI 0), (zI 0), (zI 0), (.ref 439), (.bool false), (zI 181), (.ref 440), .none, .none, .none, .none, (zI 1139), (zI 569), (yP 1140)]
def zt272 := bN (S0.o_180 P) (bL (q94 P)) (bL (q236 P))
def zt273 := bN (S0.o_116 P) (zt272 P) (bN (q29 P) (bL (q162 P)) bZ)
def q237 (P : Params) : Obj := ⟨(.type "frame"), none, .plain, [some (.ref 441), some (.ref 3), some (.ref 438), none, some yM, none, some (.ref 0)].toArray⟩
def zt295 := bN (S0.o_181 P) (bL (q95 P)) (bL (q237 P))
def zt296 := bN (S0.o_117 P) (zt295 P) (bN (q30 P) (bL (q163 P)) bZ)
def q238 (P : Params) := oT []
def zt267 := bN (S0.o_182 P) (bL (q96 P)) (bL (q238 P))
def zt268 := bN (S0.o_118 P) (zt267 P) (bN (q31 P) (bL (q164 P)) bZ)
def q239 := oD 3 [eD P "__module__" 1141 yM, eD P "__firstlineno__" 1145 (.int 569 1144), eD P "__static_attributes__" 1146 (.ref 443), eD P "__weakref__" 1148 (.ref 446), eD P "__doc__" 1149 .none]
def zt290 := bN (S0.o_183 P) (bL (q97 P)) (bL (q239 P))
def zt291 := bN (S0.o_119 P) (zt290 P) (bN (q32 P) (bL (q165 P)) bZ)
def q240 (P : Params) : Obj := ⟨(.type "type"), none, .cls { name := (.ofString "lab2"), bases := [(.type "Exception")], mro := [(.ref 445), (.type "Exception"), (.type "BaseException"), (.type "object")], ns := 444, qualname := (.ofString "lab2"), hasDict := true, slotNames := [], subclasses := [], abstract := false, collection := none, hasDel := false }, [some (.ref 436), none, some (yS "lab2" 1134), some (yS "lab2" 1142), some (.builtin "Exception.__new__"), some (.bool true)].toArray⟩
def zt279 := bN (S0.o_184 P) (bL (q98 P)) (bL (q240 P))
def zt280 := bN (S0.o_120 P) (zt279 P) (bN (q33 P) (bL (q166 P)) bZ)
def q241 (P : Params) : Obj := ⟨(.type "getset_descriptor"), none, .fields [(yS "__weakref__" 1147), (.ref 445), (.builtin "ExceptionGroup.__weakref__"), .none].toArray, [].toArray⟩
def zt300 := bN (S0.o_185 P) (bL (q99 P)) (bL (q241 P))
def zt301 := bN (S0.o_121 P) (zt300 P) (bN (q34 P) (bL (q167 P)) bZ)
def q242 (P : Params) : Obj := ⟨(.type "super"), none, .fields [(.ref 445), (.ref 445), (.ref 445)].toArray, [].toArray⟩
def zt260 := bN (S0.o_186 P) (bL (q100 P)) (bL (q242 P))
def q243 (P : Params) : Obj := ⟨(.type "builtin_function_or_method"), none, .fields [(.builtin "object.__init_subclass__"), (.ref 445)].toArray, [].toArray⟩
def zt281 := bN (S0.o_187 P) (bL (q101 P)) (bL (q243 P))
def q244 (P : Params) := oT [(.type "Exception")]
def zt269 := bN (S0.o_188 P) (bL (q102 P)) (bL (q244 P))
def q245 (P : Params) : Obj := ⟨(.type "builtin_function_or_method"), none, .fields [(.builtin "type.__prepare__"), (.type "type")].toArray, [].toArray⟩
def zt292 := bN (S0.o_189 P) (bL (q103 P)) (bL (q245 P))
def q246 := oD 4 [eD P "__module__" 1161 yM, eD P "__qualname__" 1163 (yS "lab3" 1162), eD P "__firstlineno__" 1165 (.int 571 1164), eD P "__static_attributes__" 1166 (.ref 456)]
def zt264 := bN (S0.o_190 P) (bL (q104 P)) (bL (q246 P))
def q247 (P : Params) := oT []
def zt285 := bN (S0.o_191 P) (bL (q105 P)) (bL (q247 P))
def q248 (P : Params) := oF []
def zt274 := bN (S0.o_64 P) (zt146 P) (bN (q192 P) (bL (q106 P)) (bL (q248 P)))
def q249 (P : Params) := oC [(yS "lab3" 1156), (yS "lab3" 1157), (yP 1158), (zI 571), (zI 0), (zI 0), (zI 0), (zI 0), (.ref 452), (.bool false), (zI 181), (.ref 453), .none, .none, .none, .none, (zI 1159), (zI 571), (yP 1160)]
def zt297 := bN (S0.o_193 P) (bL (q107 P)) (bL (q249 P))
def q250 (P : Params) : Obj := ⟨(.type "frame"), none, .plain, [some (.ref 454), some (.ref 3), some (.ref 451), none, some yM, none, some (.ref 0)].toArray⟩
def zt261 := bN (S0.o_194 P) (bL (q108 P)) (bL (q250 P))
def q251 (P : Params) := oT []
def zt282 := bN (S0.o_195 P) (bL (q109 P)) (bL (q251 P))
def q252 := oD 3 [eD P "__module__" 1161 yM, eD P "__firstlineno__" 1165 (.int 571 1164), eD P "__static_attributes__" 1166 (.ref 456), eD P "__weakref__" 1168 (.ref 459), eD P "__doc__" 1169 .none]
def zt270 := bN (S0.o_196 P) (bL (q110 P)) (bL (q252 P))
def zt271 := bN (S0.o_36 P) (bN (S0.o_68 P) (zt174 P) (zt270 P)) (zt227 P)
def q253 (P : Params) : Obj := ⟨(.type "type"), none, .cls { name := (.ofString "lab3"), bases := [(.type "Exception")], mro := [(.ref 458), (.type "Exception"), (.type "BaseException"), (.type "object")], ns := 457, qualname := (.ofString "lab3"), hasDict := true, slotNames := [], subclasses := [], abstract := false, collection := none, hasDel := false }, [some (.ref 449), none, some (yS "lab3" 1154), some (yS "lab3" 1162), some (.builtin "Exception.__new__"), some (.bool true)].toArray⟩
def zt293 := bN (S0.o_287 P) (bL (q111 P)) (bL (q253 P))
def zt294 := bN (S0.o_37 P) (bN (S0.o_69 P) (zt191 P) (zt293 P)) (zt251 P)
def q254 (P : Params) : Obj := ⟨(.type "getset_descriptor"), none, .fields [(yS "__weakref__" 1167), (.ref 458), (.builtin "ExceptionGroup.__weakref__"), .none].toArray, [].toArray⟩
def zt265 := bN (S0.o_288 P) (bL (q112 P)) (bL (q254 P))
def zt266 := bN (S0.o_38 P) (bN (S0.o_70 P) (zt169 P) (zt265 P)) (zt219 P)
def q255 (P : Params) : Obj := ⟨(.type "super"), none, .fields [(.ref 458), (.ref 458), (.ref 458)].toArray, [].toArray⟩
def zt288 := bN (S0.o_289 P) (bL (q113 P)) (bL (q255 P))
def zt289 := bN (S0.o_39 P) (bN (S0.o_71 P) (zt186 P) (zt288 P)) (zt243 P)
def q256 (P : Params) : Obj := ⟨(.type "builtin_function_or_method"), none, .fields [(.builtin "object.__init_subclass__"), (.ref 458)].toArray, [].toArray⟩
def zt277 := bN (S0.o_290 P) (bL (q114 P)) (bL (q256 P))
def zt278 := bN (S0.o_40 P) (bN (S0.o_72 P) (zt176 P) (zt277 P)) (zt231 P)
def trG1 (P : Params) : BT := (bN (boot_o_0 P) (bN (boot_o_1 P) (bN (q229 P) (bN (boot_o_7 P) (bN (S0.o_7 P) (bN (S0.o_26 P) (bN (S0.o_58 P) (zt134 P) (zt260 P)) (zt209 P)) (bN (S0.o_42 P) (zt165 P) (zt211 P))) (bN (S0.o_18 P) (bN (S0.o_34 P) (bN (S0.o_66 P) (zt136 P) (zt261 P)) (zt213 P)) (bN (S0.o_50 P) (zt198 P) (zt263 P)))) (bN (S0.o_1 P) (bN (S0.o_11 P) (bN (S0.o_30 P) (bN (S0.o_62 P) (zt140 P) (zt264 P)) (zt215 P)) (bN (S0.o_46 P) (zt168 P) (zt217 P))) (bN (S0.o_22 P) (zt266 P) (bN (S0.o_54 P) (zt221 P) (zt268 P))))) (bN (boot_o_5 P) (bN (boot_o_9 P) (bN (S0.o_9 P) (bN (S0.o_28 P) (bN (S0.o_60 P) (zt143 P) (zt269 P)) (zt223 P)) (bN (S0.o_44 P) (zt173 P) (zt225 P))) (bN (S0.o_20 P) (zt271 P) (bN (S0.o_52 P) (zt200 P) (zt273 P)))) (bN (S0.o_3 P) (bN (S0.o_13 P) (bN (S0.o_32 P) (zt274 P) (zt229 P)) (bN (S0.o_48 P) (zt203 P) (zt276 P))) (bN (S0.o_24 P) (zt278 P) (bN (S0.o_56 P) (zt233 P) (zt280 P)))))) (bN (q228 P) (bN (boot_o_4 P) (bN (boot_o_8 P) (bN (S0.o_8 P) (bN (S0.o_27 P) (bN (S0.o_59 P) (zt150 P) (zt281 P)) (zt235 P)) (bN (S0.o_43 P) (zt180 P) (zt237 P))) (bN (S0.o_19 P) (bN (S0.o_35 P) (bN (S0.o_67 P) (zt182 P) (zt282 P)) (zt239 P)) (bN (S0.o_51 P) (zt205 P) (zt284 P)))) (bN (q230 P) (bN (S0.o_12 P) (bN (S0.o_31 P) (bN (S0.o_63 P) (zt153 P) (zt285 P)) (zt241 P)) (bN (S0.o_47 P) (zt185 P) (zt287 P))) (bN (S0.o_23 P) (zt289 P) (bN (S0.o_55 P) (zt245 P) (zt291 P))))) (bN (boot_o_6 P) (bN (boot_o_10 P) (bN (S0.o_10 P) (bN (S0.o_29 P) (bN (S0.o_61 P) (zt156 P) (zt292 P)) (zt247 P)) (bN (S0.o_45 P) (zt190 P) (zt249 P))) (bN (S0.o_21 P) (zt294 P) (bN (S0.o_53 P) (zt253 P) (zt296 P)))) (bN (S0.o_4 P) (bN (S0.o_17 P) (bN (S0.o_33 P) (bN (S0.o_65 P) (zt159 P) (zt297 P)) (zt255 P)) (bN (S0.o_49 P) (zt207 P) (zt299 P))) (bN (S0.o_25 P) (bN (S0.o_41 P) (zt195 P) (zt257 P)) (bN (S0.o_57 P) (zt259 P) (zt301 P)))))))
def q257 := oD 23 [eD P "__name__" 165 yL, ze24 P, ze25 P, ze26 P, ze27 P, ze28 P, ze29 P, ze30 P, ze31 P, ze32 P, ze33 P, ze34 P, ze35 P, ze38 P, ze39 P, ze40 P, ze41 P, ze42 P, eD P "_law_pieces" 1183 (.ref 468), eD P "_law_bare" 1189 (.ref 475), eD P "_law_vowels" 1197 (.ref 476), eD P "_law_word" 1209 (.ref 483), eD P "_law_marked" 1215 (.ref 488)]
def q258 (P : Params) := oF [(zI 1), (zI 0), (.ref 20), (zI 5), (zI 0), (.ref 27), (zI 203), (zI 0), (.ref 207), (zI 210), (zI 0), (.ref 228), (zI 565), (zI 0), (.ref 415), (zI 567), (zI 0), (.ref 428), (zI 569), (zI 0), (.ref 441), (zI 571), (zI 0), (.ref 454), (zI 575), (zI 0), (.ref 467), (zI 577), (zI 0), (.ref 474), (zI 580), (zI 0), (.ref 482), (zI 588), (zI 0), (.ref 487)]
def q259 (P : Params) := oT []
def zt327 := bN (S0.o_291 P) (bL (q115 P)) (bL (q259 P))
def q260 (P : Params) := oF []
def zt303 := bN (S0.o_292 P) (bL (q116 P)) (bL (q260 P))
def q261 (P : Params) := oT []
def zt316 := bN (S0.o_293 P) (bL (q117 P)) (bL (q261 P))
def q262 (P : Params) := oT []
def zt310 := bN (S0.o_294 P) (bL (q119 P)) (bL (q262 P))
def q263 (P : Params) := oV (fA 13 (.ofString "_law_pieces") 0 .none .none 0)
def zt323 := bN (S0.o_295 P) (bL (q120 P)) (bL (q263 P))
def q264 (P : Params) := oC [(yS "_law_pieces" 1178), (yS "_law_pieces" 1179), (yP 1180), (zI 575), (zI 0), (zI 0), (zI 0), (zI 3), (.ref 462), (.bool true), (zI 181), (.ref 463), .none, (.ref 464), (.ref 465), (.ref 466), (zI 1181), (zI 575), (yP 1182)]
def zt307 := bN (S0.o_296 P) (bL (q121 P)) (bL (q264 P))
def q265 (P : Params) := oU (fA 13 (.ofString "_law_pieces") 3 yL (.ref 467) 0)
def zt320 := bN (S0.o_297 P) (bL (q122 P)) (bL (q265 P))
def q266 (P : Params) := oT []
def zt313 := bN (S0.o_298 P) (bL (q123 P)) (bL (q266 P))
def q267 (P : Params) := oF []
def zt326 := bN (S0.o_299 P) (bL (q124 P)) (bL (q267 P))
def q268 (P : Params) := oT []
def zt305 := bN (S0.o_300 P) (bL (q125 P)) (bL (q268 P))
def q269 (P : Params) := oT []
def zt318 := bN (S0.o_301 P) (bL (q126 P)) (bL (q269 P))
def q270 (P : Params) := oV (fA 14 (.ofString "_law_bare") 0 .none .none 0)
def zt311 := bN (S0.o_302 P) (bL (q127 P)) (bL (q270 P))
def q271 (P : Params) := oC [(yS "_law_bare" 1184), (yS "_law_bare" 1185), (yP 1186), (zI 577), (zI 0), (zI 0), (zI 0), (zI 3), (.ref 469), (.bool true), (zI 181), (.ref 470), .none, (.ref 471), (.ref 472), (.ref 473), (zI 1187), (zI 577), (yP 1188)]
def zt324 := bN (S0.o_303 P) (bL (q128 P)) (bL (q271 P))
def q272 (P : Params) := oU (fA 14 (.ofString "_law_bare") 3 yL (.ref 474) 0)
def zt308 := bN (S0.o_304 P) (bL (q130 P)) (bL (q272 P))
def q273 (P : Params) : Obj := ⟨(.type "list"), none, .seq [(yS "a" 1190), (yS "e" 1191), (yS "i" 1192), (yS "o" 1193), (yS "u" 1194), (yS "y" 1195), (yS "è" 1196)].toArray 0, [].toArray⟩
def zt321 := bN (S0.o_305 P) (bL (q131 P)) (bL (q273 P))
def q274 (P : Params) := oT []
def zt314 := bN (S0.o_88 P) (zt232 P) (bN (S0.o_306 P) (bL (q132 P)) (bL (q274 P)))
def q275 (P : Params) := oF []
def zt328 := bN (S0.o_89 P) (zt258 P) (bN (S0.o_307 P) (bL (q133 P)) (bL (q275 P)))
def q276 (P : Params) := oT [(yS "numbers" 1201), (yS "most" 1202), (yS "word" 1203), (yS "number" 1204), (yS "k" 1205), (yS "piece" 1206)]
def zt302 := bN (S0.o_90 P) (zt208 P) (bN (q1 P) (bL (q134 P)) (bL (q276 P)))
def q277 (P : Params) := oT []
def zt315 := bN (S0.o_91 P) (zt234 P) (bN (q2 P) (bL (q135 P)) (bL (q277 P)))
def q278 (P : Params) := oV (fA 16 (.ofString "_law_word") 0 .none .none 0)
def zt309 := bN (S0.o_92 P) (zt222 P) (bN (q193 P) (bL (q136 P)) (bL (q278 P)))
def q279 (P : Params) := oC [(yS "_law_word" 1198), (yS "_law_word" 1199), (yP 1200), (zI 580), (zI 2), (zI 0), (zI 0), (zI 3), (.ref 477), (.bool true), (zI 181), (.ref 478), .none, (.ref 479), (.ref 480), (.ref 481), (zI 1207), (zI 580), (yP 1208)]
def zt322 := bN (S0.o_93 P) (zt246 P) (bN (q4 P) (bL (q137 P)) (bL (q279 P)))
def q280 (P : Params) := oU (fA 16 (.ofString "_law_word") 3 yL (.ref 482) 0)
def zt306 := bN (S0.o_94 P) (zt214 P) (bN (q12 P) (bL (q138 P)) (bL (q280 P)))
def q281 (P : Params) := oT []
def zt319 := bN (S0.o_95 P) (zt240 P) (bN (q6 P) (bL (q139 P)) (bL (q281 P)))
def q282 (P : Params) := oF []
def zt312 := bN (S0.o_96 P) (zt228 P) (bN (q7 P) (bL (q141 P)) (bL (q282 P)))
def q283 (P : Params) := oV (fA 17 (.ofString "_law_marked") 0 .none .none 0)
def zt325 := bN (S0.o_97 P) (zt254 P) (bN (gO0 P) (bL (q142 P)) (bL (q283 P)))
def q284 (P : Params) := oC [(yS "_law_marked" 1210), (yS "_law_marked" 1211), (yP 1212), (zI 588), (zI 1), (zI 0), (zI 0), (zI 3), (.ref 484), (.bool true), (zI 181), (.ref 485), .none, .none, .none, (.ref 486), (zI 1213), (zI 588), (yP 1214)]
def zt304 := bN (S0.o_98 P) (zt212 P) (bN (gO1 P) (bL (q143 P)) (bL (q284 P)))
def q285 (P : Params) := oU (fA 17 (.ofString "_law_marked") 3 yL (.ref 487) 0)
def zt317 := bN (S0.o_99 P) (zt238 P) (bN (gO2 P) (bL (q144 P)) (bL (q285 P)))
def trG2 (P : Params) : BT := (bN (boot_o_0 P) (bN (boot_o_1 P) (bN (q257 P) (bN (boot_o_7 P) (bN (S0.o_7 P) (bN (S0.o_26 P) (bN (S0.o_58 P) (zt134 P) (zt260 P)) (zt302 P)) (bN (S0.o_42 P) (bN (S0.o_74 P) (zt164 P) (zt303 P)) (zt211 P))) (bN (S0.o_18 P) (bN (S0.o_34 P) (bN (S0.o_66 P) (zt136 P) (zt261 P)) (zt304 P)) (bN (S0.o_50 P) (bN (S0.o_82 P) (zt197 P) (zt305 P)) (zt263 P)))) (bN (S0.o_1 P) (bN (S0.o_11 P) (bN (S0.o_30 P) (bN (S0.o_62 P) (zt140 P) (zt264 P)) (zt306 P)) (bN (S0.o_46 P) (bN (S0.o_78 P) (zt167 P) (zt307 P)) (zt217 P))) (bN (S0.o_22 P) (zt266 P) (bN (S0.o_54 P) (bN (S0.o_86 P) (zt220 P) (zt308 P)) (zt268 P))))) (bN (boot_o_5 P) (bN (boot_o_9 P) (bN (S0.o_9 P) (bN (S0.o_28 P) (bN (S0.o_60 P) (zt143 P) (zt269 P)) (zt309 P)) (bN (S0.o_44 P) (bN (S0.o_76 P) (zt172 P) (zt310 P)) (zt225 P))) (bN (S0.o_20 P) (zt271 P) (bN (S0.o_52 P) (bN (S0.o_84 P) (zt199 P) (zt311 P)) (zt273 P)))) (bN (S0.o_3 P) (bN (S0.o_13 P) (bN (S0.o_32 P) (zt274 P) (zt312 P)) (bN (S0.o_48 P) (bN (S0.o_80 P) (zt202 P) (zt313 P)) (zt276 P))) (bN (S0.o_24 P) (zt278 P) (bN (S0.o_56 P) (zt314 P) (zt280 P)))))) (bN (q228 P) (bN (boot_o_4 P) (bN (boot_o_8 P) (bN (S0.o_8 P) (bN (S0.o_27 P) (bN (S0.o_59 P) (zt150 P) (zt281 P)) (zt315 P)) (bN (S0.o_43 P) (bN (S0.o_75 P) (zt179 P) (zt316 P)) (zt237 P))) (bN (S0.o_19 P) (bN (S0.o_35 P) (bN (S0.o_67 P) (zt182 P) (zt282 P)) (zt317 P)) (bN (S0.o_51 P) (bN (S0.o_83 P) (zt204 P) (zt318 P)) (zt284 P)))) (bN (q258 P) (bN (S0.o_12 P) (bN (S0.o_31 P) (bN (S0.o_63 P) (zt153 P) (zt285 P)) (zt319 P)) (bN (S0.o_47 P) (bN (S0.o_79 P) (zt184 P) (zt320 P)) (zt287 P))) (bN (S0.o_23 P) (zt289 P) (bN (S0.o_55 P) (bN (S0.o_87 P) (zt244 P) (zt321 P)) (zt291 P))))) (bN (boot_o_6 P) (bN (boot_o_10 P) (bN (S0.o_10 P) (bN (S0.o_29 P) (bN (S0.o_61 P) (zt156 P) (zt292 P)) (zt322 P)) (bN (S0.o_45 P) (bN (S0.o_77 P) (zt189 P) (zt323 P)) (zt249 P))) (bN (S0.o_21 P) (zt294 P) (bN (S0.o_53 P) (bN (S0.o_85 P) (zt252 P) (zt324 P)) (zt296 P)))) (bN (S0.o_4 P) (bN (S0.o_17 P) (bN (S0.o_33 P) (bN (S0.o_65 P) (zt159 P) (zt297 P)) (zt325 P)) (bN (S0.o_49 P) (bN (S0.o_81 P) (zt206 P) (zt326 P)) (zt299 P))) (bN (S0.o_25 P) (bN (S0.o_41 P) (bN (S0.o_73 P) (zt194 P) (zt327 P)) (zt257 P)) (bN (S0.o_57 P) (zt328 P) (zt301 P)))))))
def q286 := oD 31 [eD P "__name__" 165 yL, ze24 P, ze25 P, ze26 P, ze27 P, ze28 P, ze29 P, ze30 P, ze31 P, ze32 P, ze33 P, ze34 P, ze35 P, ze38 P, ze39 P, ze40 P, ze41 P, ze42 P, eD P "_law_pieces" 1183 (.ref 468), eD P "_law_bare" 1189 (.ref 475), eD P "_law_vowels" 1197 (.ref 476), eD P "_law_word" 1209 (.ref 483), eD P "_law_marked" 1215 (.ref 488), eD P "_law_regions" 1221 (.ref 493), eD P "_law_ending" 1231 (.ref 500), eD P "_law_shut" 1239 (.ref 507), eD P "_law_single" 1246 (.ref 514), eD P "_law_less_en" 1256 (.ref 521), eD P "_law_less_e" 1265 (.ref 528), eD P "_law_stem" 1271 (.ref 533), eD P "law" 1282 (.ref 540)]
def q287 (P : Params) := oF [(zI 1), (zI 0), (.ref 20), (zI 5), (zI 0), (.ref 27), (zI 203), (zI 0), (.ref 207), (zI 210), (zI 0), (.ref 228), (zI 565), (zI 0), (.ref 415), (zI 567), (zI 0), (.ref 428), (zI 569), (zI 0), (.ref 441), (zI 571), (zI 0), (.ref 454), (zI 575), (zI 0), (.ref 467), (zI 577), (zI 0), (.ref 474), (zI 580), (zI 0), (.ref 482), (zI 588), (zI 0), (.ref 487), (zI 602), (zI 0), (.ref 492), (zI 607), (zI 0), (.ref 499), (zI 613), (zI 0), (.ref 506), (zI 615), (zI 0), (.ref 513), (zI 617), (zI 0), (.ref 520), (zI 622), (zI 0), (.ref 527), (zI 628), (zI 0), (.ref 532), (zI 666), (zI 0), (.ref 539)]
def q288 (P : Params) := oT []
def q289 (P : Params) := oF []
def q290 (P : Params) := oV (fA 18 (.ofString "_law_regions") 0 .none .none 0)
def q291 (P : Params) := oC [(yS "_law_regions" 1216), (yS "_law_regions" 1217), (yP 1218), (zI 602), (zI 1), (zI 0), (zI 0), (zI 3), (.ref 489), (.bool true), (zI 181), (.ref 490), .none, .none, .none, (.ref 491), (zI 1219), (zI 602), (yP 1220)]
def q292 (P : Params) := oU (fA 18 (.ofString "_law_regions") 3 yL (.ref 492) 0)
def q293 (P : Params) := oT []
def q294 (P : Params) := oF []
def q295 (P : Params) := oT [(yS "word" 1225), (yS "ends" 1226), (yS "found" 1227), (yS "end" 1228)]
def q296 (P : Params) := oT []
def q297 (P : Params) := oV (fA 19 (.ofString "_law_ending") 0 .none .none 0)
def q298 (P : Params) := oC [(yS "_law_ending" 1222), (yS "_law_ending" 1223), (yP 1224), (zI 607), (zI 2), (zI 0), (zI 0), (zI 3), (.ref 494), (.bool true), (zI 181), (.ref 495), .none, (.ref 496), (.ref 497), (.ref 498), (zI 1229), (zI 607), (yP 1230)]
def q299 (P : Params) := oU (fA 19 (.ofString "_law_ending") 3 yL (.ref 499) 0)
def q300 (P : Params) := oT []
def q301 (P : Params) := oF []
def q302 (P : Params) := oT [(yS "stem" 1235), (yS "signs" 1236)]
def q303 (P : Params) := oT []
def q304 (P : Params) := oV (fA 20 (.ofString "_law_shut") 0 .none .none 0)
def q305 (P : Params) := oC [(yS "_law_shut" 1232), (yS "_law_shut" 1233), (yP 1234), (zI 613), (zI 2), (zI 0), (zI 0), (zI 3), (.ref 501), (.bool true), (zI 181), (.ref 502), .none, (.ref 503), (.ref 504), (.ref 505), (zI 1237), (zI 613), (yP 1238)]
def q306 (P : Params) := oU (fA 20 (.ofString "_law_shut") 3 yL (.ref 506) 0)
def q307 (P : Params) := oT []
def q308 (P : Params) := oF []
def q309 (P : Params) := oT [(yS "stem" 1243)]
def q310 (P : Params) := oT []
def q311 (P : Params) := oV (fA 21 (.ofString "_law_single") 0 .none .none 0)
def q312 (P : Params) := oC [(yS "_law_single" 1240), (yS "_law_single" 1241), (yP 1242), (zI 615), (zI 1), (zI 0), (zI 0), (zI 3), (.ref 508), (.bool true), (zI 181), (.ref 509), .none, (.ref 510), (.ref 511), (.ref 512), (zI 1244), (zI 615), (yP 1245)]
def q313 (P : Params) := oU (fA 21 (.ofString "_law_single") 3 yL (.ref 513) 0)
def q314 (P : Params) := oT []
def q315 (P : Params) := oF []
def q316 (P : Params) := oT [(yS "word" 1250), (yS "end" 1251), (yS "first" 1252), (yS "stem" 1253)]
def q317 (P : Params) := oT []
def q318 (P : Params) := oV (fA 22 (.ofString "_law_less_en") 0 .none .none 0)
def q319 (P : Params) := oC [(yS "_law_less_en" 1247), (yS "_law_less_en" 1248), (yP 1249), (zI 617), (zI 3), (zI 0), (zI 0), (zI 3), (.ref 515), (.bool true), (zI 181), (.ref 516), .none, (.ref 517), (.ref 518), (.ref 519), (zI 1254), (zI 617), (yP 1255)]
def q320 (P : Params) := oU (fA 22 (.ofString "_law_less_en") 3 yL (.ref 520) 0)
def q321 (P : Params) := oT []
def q322 (P : Params) := oF []
def q323 (P : Params) := oT [(yS "word" 1260), (yS "first" 1261), (yS "stem" 1262)]
def q324 (P : Params) := oT []
def q325 (P : Params) := oV (fA 23 (.ofString "_law_less_e") 0 .none .none 0)
def q326 (P : Params) := oC [(yS "_law_less_e" 1257), (yS "_law_less_e" 1258), (yP 1259), (zI 622), (zI 2), (zI 0), (zI 0), (zI 3), (.ref 522), (.bool true), (zI 181), (.ref 523), .none, (.ref 524), (.ref 525), (.ref 526), (zI 1263), (zI 622), (yP 1264)]
def q327 (P : Params) := oU (fA 23 (.ofString "_law_less_e") 3 yL (.ref 527) 0)
def q328 (P : Params) := oT []
def q329 (P : Params) := oF []
def q330 (P : Params) := oV (fA 24 (.ofString "_law_stem") 0 .none .none 0)
def q331 (P : Params) := oC [(yS "_law_stem" 1266), (yS "_law_stem" 1267), (yP 1268), (zI 628), (zI 1), (zI 0), (zI 0), (zI 3), (.ref 529), (.bool true), (zI 181), (.ref 530), .none, .none, .none, (.ref 531), (zI 1269), (zI 628), (yP 1270)]
def q332 (P : Params) := oU (fA 24 (.ofString "_law_stem") 3 yL (.ref 532) 0)
def q333 (P : Params) := oT []
def q334 (P : Params) := oF []
def q335 (P : Params) := oT [(yS "script" 1275), (yS "first" 1276), (yS "second" 1277), (yS "third" 1278), (yS "stemmer" 1279)]
def q336 (P : Params) := oT []
def q337 (P : Params) := oV (fA 25 (.ofString "law") 0 .none .none 0)
def q338 (P : Params) := oC [(yS "law" 1272), (yS "law" 1273), (yP 1274), (zI 666), (zI 1), (zI 0), (zI 0), (zI 3), (.ref 534), (.bool true), (zI 181), (.ref 535), .none, (.ref 536), (.ref 537), (.ref 538), (zI 1280), (zI 666), (yP 1281)]
def q339 (P : Params) := oU (fA 25 (.ofString "law") 3 yL (.ref 539) 0)
def trG3 (P : Params) : BT := (bN (boot_o_0 P) (bN (boot_o_1 P) (bN (q286 P) (bN (boot_o_7 P) (bN (S0.o_7 P) (bN (S0.o_26 P) (bN (S0.o_58 P) (bN (S0.o_122 P) (bN (q35 P) (bL (q310 P)) bZ) (bL (q168 P))) (zt260 P)) (zt302 P)) (bN (S0.o_42 P) (bN (S0.o_74 P) (bN (S0.o_138 P) (bN (q51 P) (bL (q326 P)) bZ) (bL (q185 P))) (zt303 P)) (bN (S0.o_106 P) (zt210 P) (bN (q19 P) (bL (q151 P)) (bL (q294 P)))))) (bN (S0.o_18 P) (bN (S0.o_34 P) (bN (S0.o_66 P) (bN (S0.o_130 P) (bN (q43 P) (bL (q318 P)) bZ) (bL (q176 P))) (zt261 P)) (zt304 P)) (bN (S0.o_50 P) (bN (S0.o_82 P) (bN (S0.o_146 P) (bN (q59 P) (bL (q334 P)) bZ) (bL (q196 P))) (zt305 P)) (bN (S0.o_114 P) (zt262 P) (bN (q27 P) (bL (q160 P)) (bL (q302 P))))))) (bN (S0.o_1 P) (bN (S0.o_11 P) (bN (S0.o_30 P) (bN (S0.o_62 P) (bN (S0.o_126 P) (bN (q39 P) (bL (q314 P)) bZ) (bL (q172 P))) (zt264 P)) (zt306 P)) (bN (S0.o_46 P) (bN (S0.o_78 P) (bN (S0.o_142 P) (bN (q55 P) (bL (q330 P)) bZ) (bL (q189 P))) (zt307 P)) (bN (S0.o_110 P) (zt216 P) (bN (q23 P) (bL (q155 P)) (bL (q298 P)))))) (bN (S0.o_22 P) (bN (S0.o_38 P) (bN (S0.o_70 P) (bN (S0.o_134 P) (bN (q47 P) (bL (q322 P)) bZ) (bL (q181 P))) (zt265 P)) (bN (S0.o_102 P) (zt218 P) (bN (q15 P) (bL (q147 P)) (bL (q290 P))))) (bN (S0.o_54 P) (bN (S0.o_86 P) (bN (S0.o_150 P) (bN (q63 P) (bL (q338 P)) bZ) (bL (q203 P))) (zt308 P)) (bN (S0.o_118 P) (zt267 P) (bN (q31 P) (bL (q164 P)) (bL (q306 P)))))))) (bN (boot_o_5 P) (bN (boot_o_9 P) (bN (S0.o_9 P) (bN (S0.o_28 P) (bN (S0.o_60 P) (bN (S0.o_124 P) (bN (q37 P) (bL (q312 P)) bZ) (bL (q170 P))) (zt269 P)) (zt309 P)) (bN (S0.o_44 P) (bN (S0.o_76 P) (bN (S0.o_140 P) (bN (q53 P) (bL (q328 P)) bZ) (bL (q187 P))) (zt310 P)) (bN (S0.o_108 P) (zt224 P) (bN (q21 P) (bL (q153 P)) (bL (q296 P)))))) (bN (S0.o_20 P) (bN (S0.o_36 P) (bN (S0.o_68 P) (bN (S0.o_132 P) (bN (q45 P) (bL (q320 P)) bZ) (bL (q179 P))) (zt270 P)) (bN (S0.o_100 P) (zt226 P) (bN (q13 P) (bL (q145 P)) (bL (q288 P))))) (bN (S0.o_52 P) (bN (S0.o_84 P) (bN (S0.o_148 P) (bN (q61 P) (bL (q336 P)) bZ) (bL (q198 P))) (zt311 P)) (bN (S0.o_116 P) (zt272 P) (bN (q29 P) (bL (q162 P)) (bL (q304 P))))))) (bN (S0.o_3 P) (bN (S0.o_13 P) (bN (S0.o_32 P) (bN (S0.o_64 P) (bN (S0.o_128 P) (bN (q41 P) (bL (q316 P)) bZ) (bL (q174 P))) (bN (q192 P) (bL (q106 P)) (bL (q248 P)))) (zt312 P)) (bN (S0.o_48 P) (bN (S0.o_80 P) (bN (S0.o_144 P) (bN (q57 P) (bL (q332 P)) bZ) (bL (q194 P))) (zt313 P)) (bN (S0.o_112 P) (zt275 P) (bN (q25 P) (bL (q158 P)) (bL (q300 P)))))) (bN (S0.o_24 P) (bN (S0.o_40 P) (bN (S0.o_72 P) (bN (S0.o_136 P) (bN (q49 P) (bL (q324 P)) bZ) (bL (q183 P))) (zt277 P)) (bN (S0.o_104 P) (zt230 P) (bN (q17 P) (bL (q149 P)) (bL (q292 P))))) (bN (S0.o_56 P) (zt314 P) (bN (S0.o_120 P) (zt279 P) (bN (q33 P) (bL (q166 P)) (bL (q308 P))))))))) (bN (q228 P) (bN (boot_o_4 P) (bN (boot_o_8 P) (bN (S0.o_8 P) (bN (S0.o_27 P) (bN (S0.o_59 P) (bN (S0.o_123 P) (bN (q36 P) (bL (q311 P)) bZ) (bL (q169 P))) (zt281 P)) (zt315 P)) (bN (S0.o_43 P) (bN (S0.o_75 P) (bN (S0.o_139 P) (bN (q52 P) (bL (q327 P)) bZ) (bL (q186 P))) (zt316 P)) (bN (S0.o_107 P) (zt236 P) (bN (q20 P) (bL (q152 P)) (bL (q295 P)))))) (bN (S0.o_19 P) (bN (S0.o_35 P) (bN (S0.o_67 P) (bN (S0.o_131 P) (bN (q44 P) (bL (q319 P)) bZ) (bL (q178 P))) (zt282 P)) (zt317 P)) (bN (S0.o_51 P) (bN (S0.o_83 P) (bN (S0.o_147 P) (bN (q60 P) (bL (q335 P)) bZ) (bL (q197 P))) (zt318 P)) (bN (S0.o_115 P) (zt283 P) (bN (q28 P) (bL (q161 P)) (bL (q303 P))))))) (bN (q287 P) (bN (S0.o_12 P) (bN (S0.o_31 P) (bN (S0.o_63 P) (bN (S0.o_127 P) (bN (q40 P) (bL (q315 P)) bZ) (bL (q173 P))) (zt285 P)) (zt319 P)) (bN (S0.o_47 P) (bN (S0.o_79 P) (bN (S0.o_143 P) (bN (q56 P) (bL (q331 P)) bZ) (bL (q190 P))) (zt320 P)) (bN (S0.o_111 P) (zt286 P) (bN (q24 P) (bL (q156 P)) (bL (q299 P)))))) (bN (S0.o_23 P) (bN (S0.o_39 P) (bN (S0.o_71 P) (bN (S0.o_135 P) (bN (q48 P) (bL (q323 P)) bZ) (bL (q182 P))) (zt288 P)) (bN (S0.o_103 P) (zt242 P) (bN (q16 P) (bL (q148 P)) (bL (q291 P))))) (bN (S0.o_55 P) (bN (S0.o_87 P) (bN (S0.o_151 P) (bN (q64 P) (bL (q339 P)) bZ) (bL (q204 P))) (zt321 P)) (bN (S0.o_119 P) (zt290 P) (bN (q32 P) (bL (q165 P)) (bL (q307 P)))))))) (bN (boot_o_6 P) (bN (boot_o_10 P) (bN (S0.o_10 P) (bN (S0.o_29 P) (bN (S0.o_61 P) (bN (S0.o_125 P) (bN (q38 P) (bL (q313 P)) bZ) (bL (q171 P))) (zt292 P)) (zt322 P)) (bN (S0.o_45 P) (bN (S0.o_77 P) (bN (S0.o_141 P) (bN (q54 P) (bL (q329 P)) bZ) (bL (q188 P))) (zt323 P)) (bN (S0.o_109 P) (zt248 P) (bN (q22 P) (bL (q154 P)) (bL (q297 P)))))) (bN (S0.o_21 P) (bN (S0.o_37 P) (bN (S0.o_69 P) (bN (S0.o_133 P) (bN (q46 P) (bL (q321 P)) bZ) (bL (q180 P))) (zt293 P)) (bN (S0.o_101 P) (zt250 P) (bN (q14 P) (bL (q146 P)) (bL (q289 P))))) (bN (S0.o_53 P) (bN (S0.o_85 P) (bN (S0.o_149 P) (bN (q62 P) (bL (q337 P)) bZ) (bL (q202 P))) (zt324 P)) (bN (S0.o_117 P) (zt295 P) (bN (q30 P) (bL (q163 P)) (bL (q305 P))))))) (bN (S0.o_4 P) (bN (S0.o_17 P) (bN (S0.o_33 P) (bN (S0.o_65 P) (bN (S0.o_129 P) (bN (q42 P) (bL (q317 P)) bZ) (bL (q175 P))) (zt297 P)) (zt325 P)) (bN (S0.o_49 P) (bN (S0.o_81 P) (bN (S0.o_145 P) (bN (q58 P) (bL (q333 P)) bZ) (bL (q195 P))) (zt326 P)) (bN (S0.o_113 P) (zt298 P) (bN (q26 P) (bL (q159 P)) (bL (q301 P)))))) (bN (S0.o_25 P) (bN (S0.o_41 P) (bN (S0.o_73 P) (bN (S0.o_137 P) (bN (q50 P) (bL (q325 P)) bZ) (bL (q184 P))) (zt327 P)) (bN (S0.o_105 P) (zt256 P) (bN (q18 P) (bL (q150 P)) (bL (q293 P))))) (bN (S0.o_57 P) (zt328 P) (bN (S0.o_121 P) (zt300 P) (bN (q34 P) (bL (q167 P)) (bL (q309 P))))))))))
end
end Mine
namespace Mine
noncomputable def bB : List Stmt := behindTheImports pw
noncomputable def cd0 : Code := .body bB S0.env_1
noncomputable def cbody : List Stmt := bodyOf (at_ PW 6)
noncomputable def cenv : Env := { scope := scopeOf (at_ PW 6), locals := 225, globals := 3, cells := [], qual := (.ofString "DutchPorterStemmer."), code := .ref 228, frame := some 229, builtins := 0 }
noncomputable def cc : Code := .body cbody cenv
noncomputable def fr0 : Frame := topFrame ⟨0, 0, 0, 0⟩
abbrev mkS (t : BT) (n k : Nat) (os : OsState) : SharedT := ⟨t, n, {}, #[], {}, k, os⟩
noncomputable def posA : Pos := ⟨210, 0, 564, 94⟩
noncomputable def runA (w : World) (os : OsState) := Fast.tw10295753902157049106 Fast.tw14364793385576792824 pw w 11 (some (.ref 6)) 1 64 (mkS (S0.tree_307 w.params) 223 473 os) ⟨(Fast.tw12563942051412417395 [at_ PW 6] S0.env_1).wrap doneF deadEnd id id, cd0, ⟨209, 0, 209, 8⟩, [fr0]⟩
noncomputable def K1 (w : World) (os : OsState) : Result → Sem Fin := match runA w os with
  | some (_, ⟨_, _, _, .ret k _ _ _ _ _ _ :: _⟩) => k
  | _ => fun _ => .unsupported ""
noncomputable def B1 (w : World) (os : OsState) : List Frame := [.ret (K1 w os) none false [.ref 197, .ref 223, .ref 223, .ref 225, .ref 229] cd0 posA [], fr0]
theorem runA_tw (w : World) (os : OsState) : runA w os = some (mkS (trA w.params) 230 485 os, ⟨Fast.tw11892475500146522536 Fast.tw14364793385576792824 cc, cc, posA, B1 w os⟩) := by
  kernel_rfl!
theorem runA_is (w : World) (os : OsState) : segGoT treeTable pw w 11 (some (.ref 6)) 1 64 (mkS (S0.tree_307 w.params) 223 473 os) (piecesOf [at_ PW 6] S0.env_1 cd0 ⟨209, 0, 209, 8⟩ [fr0]) =
    some (mkS (trA w.params) 230 485 os, ⟨denote treeTable cc, cc, posA, B1 w os⟩) := by
  unfold piecesOf; rw [Fast.te10295753902157049106, Fast.te14364793385576792824, Fast.te12563942051412417395, Fast.te11892475500146522536]; exact runA_tw w os
theorem runM0 (w : World) (os : OsState) : segRunT treeTable pw w 11 (some (.ref 6)) 2 356 (mkS (trB2 w.params (gO2 w.params)) 233 534 os) (piecesOf ((cbody.drop 3).take 13) cenv cc ⟨213, 4, 213, 9⟩ (B1 w os)) =
    some (.next, mkS (trM0 w.params) 303 635 os, cc, ⟨544, 4, 558, 19⟩) := by
  unfold piecesOf; rw [Fast.te10110043849684766642, Fast.te14364793385576792824, Fast.te12563942051412417395]
  kernel_rfl!
theorem runM1 (w : World) (os : OsState) : segRunT treeTable pw w 11 (some (.ref 6)) 2 1832 (mkS (trM0 w.params) 303 635 os) (piecesOf ((cbody.drop 16).take 1) cenv cc ⟨544, 4, 558, 19⟩ (B1 w os)) =
    some (.next, mkS (trM1 w.params) 337 780 os, cc, ⟨559, 4, 559, 7⟩) := by
  unfold piecesOf; rw [Fast.te10110043849684766642, Fast.te14364793385576792824, Fast.te12563942051412417395]
  kernel_rfl!
theorem runM2 (w : World) (os : OsState) : segRunT treeTable pw w 11 (some (.ref 6)) 2 512 (mkS (trM1 w.params) 337 780 os) (piecesOf ((cbody.drop 17).take 1) cenv cc ⟨559, 4, 559, 7⟩ (B1 w os)) =
    some (.next, mkS (trM2 w.params) 347 821 os, cc, ⟨560, 4, 560, 7⟩) := by
  unfold piecesOf; rw [Fast.te10110043849684766642, Fast.te14364793385576792824, Fast.te12563942051412417395]
  kernel_rfl!
theorem runM3 (w : World) (os : OsState) : segRunT treeTable pw w 11 (some (.ref 6)) 2 537 (mkS (trM2 w.params) 347 821 os) (piecesOf ((cbody.drop 18).take 1) cenv cc ⟨560, 4, 560, 7⟩ (B1 w os)) =
    some (.next, mkS (trM3 w.params) 357 867 os, cc, ⟨561, 4, 561, 7⟩) := by
  unfold piecesOf; rw [Fast.te10110043849684766642, Fast.te14364793385576792824, Fast.te12563942051412417395]
  kernel_rfl!
theorem runM4 (w : World) (os : OsState) : segRunT treeTable pw w 11 (some (.ref 6)) 2 857 (mkS (trM3 w.params) 357 867 os) (piecesOf ((cbody.drop 19).take 1) cenv cc ⟨561, 4, 561, 7⟩ (B1 w os)) =
    some (.next, mkS (trM4 w.params) 373 937 os, cc, ⟨562, 4, 562, 7⟩) := by
  unfold piecesOf; rw [Fast.te10110043849684766642, Fast.te14364793385576792824, Fast.te12563942051412417395]
  kernel_rfl!
theorem runM5 (w : World) (os : OsState) : segRunT treeTable pw w 11 (some (.ref 6)) 2 1032 (mkS (trM4 w.params) 373 937 os) (piecesOf ((cbody.drop 20).take 1) cenv cc ⟨562, 4, 562, 7⟩ (B1 w os)) =
    some (.next, mkS (trM5 w.params) 392 1022 os, cc, ⟨563, 4, 563, 7⟩) := by
  unfold piecesOf; rw [Fast.te10110043849684766642, Fast.te14364793385576792824, Fast.te12563942051412417395]
  kernel_rfl!
theorem runM6 (w : World) (os : OsState) : segRunT treeTable pw w 11 (some (.ref 6)) 2 712 (mkS (trM5 w.params) 392 1022 os) (piecesOf ((cbody.drop 21).take 1) cenv cc ⟨563, 4, 563, 7⟩ (B1 w os)) =
    some (.next, mkS (trM6 w.params) 405 1083 os, cc, ⟨564, 4, 564, 7⟩) := by
  unfold piecesOf; rw [Fast.te10110043849684766642, Fast.te14364793385576792824, Fast.te12563942051412417395]
  kernel_rfl!
theorem runC (w : World) (os : OsState) : segRunT treeTable pw w 11 (some (.ref 6)) 1 175 (mkS (trM6 w.params) 405 1083 os) ⟨doneF .next, cc, ⟨564, 4, 564, 7⟩, B1 w os⟩ =
    some (.next, mkS (trC w.params) 410 1094 os, cd0, posA) := by
  rw [Fast.te10110043849684766642, Fast.te14364793385576792824]
  kernel_rfl!
theorem runG0 (w : World) (os : OsState) : segRunT treeTable pw w 11 (some (.ref 6)) 1 393 (mkS (trC w.params) 410 1094 os) (piecesOf ((PW.drop 7).take 2) S0.env_1 cd0 ⟨210, 0, 564, 94⟩ [fr0]) =
    some (.next, mkS (trG0 w.params) 436 1134 os, cd0, ⟨567, 0, 568, 8⟩) := by
  unfold piecesOf; rw [Fast.te10110043849684766642, Fast.te14364793385576792824, Fast.te12563942051412417395]
  kernel_rfl!
theorem runG1 (w : World) (os : OsState) : segRunT treeTable pw w 11 (some (.ref 6)) 1 393 (mkS (trG0 w.params) 436 1134 os) (piecesOf ((PW.drop 9).take 2) S0.env_1 cd0 ⟨567, 0, 568, 8⟩ [fr0]) =
    some (.next, mkS (trG1 w.params) 462 1174 os, cd0, ⟨571, 0, 572, 8⟩) := by
  unfold piecesOf; rw [Fast.te10110043849684766642, Fast.te14364793385576792824, Fast.te12563942051412417395]
  kernel_rfl!
theorem runG2 (w : World) (os : OsState) : segRunT treeTable pw w 11 (some (.ref 6)) 1 152 (mkS (trG1 w.params) 462 1174 os) (piecesOf ((PW.drop 11).take 7) S0.env_1 cd0 ⟨571, 0, 572, 8⟩ [fr0]) =
    some (.next, mkS (trG2 w.params) 489 1216 os, cd0, ⟨588, 0, 601, 26⟩) := by
  unfold piecesOf; rw [Fast.te10110043849684766642, Fast.te14364793385576792824, Fast.te12563942051412417395]
  kernel_rfl!
theorem runG3 (w : World) (os : OsState) : segRunT treeTable pw w 11 (some (.ref 6)) 1 240 (mkS (trG2 w.params) 489 1216 os) (piecesOf ((PW.drop 18).take 8) S0.env_1 cd0 ⟨588, 0, 601, 26⟩ [fr0]) =
    some (.next, mkS (trG3 w.params) 541 1283 os, cd0, ⟨666, 0, 673, 86⟩) := by
  unfold piecesOf; rw [Fast.te10110043849684766642, Fast.te14364793385576792824, Fast.te12563942051412417395]
  kernel_rfl!
end Mine
namespace Mine
def HashRuns (w : World) (x : Str) : Prop := ∀ (T : BT) (n k tk : Nat) (os : OsState) (pos : Pos) (gd : Bool → Bool) (lv : List Value → List Value),
  segRunT treeTable pw w 11 (some (.ref 6)) 2 20 (mkS T n k os) ⟨(pyHash (.str x tk)).wrap (fun h => .pure (.done (.ret (.int h 0)))) deadEnd gd lv, cc, pos, B1 w os⟩ =
    some (.ret (.int (PyData.keyHash w.params x) 0), mkS T n (k + 1) os, cc, pos)
theorem hash_0 (w : World) : HashRuns w (.ofString "a") := by
  refine byRow2 "special-get-raises" (P := fun w => HashRuns w (.ofString "a")) (fun w => ?_) (fun w => ?_) w
  all_goals
    intro T n k tk os pos gd lv
    rw [Fast.te10110043849684766642, Fast.te14364793385576792824, Fast.te10540108854288196387]
    kernel_rfl!
theorem hash_1 (w : World) : HashRuns w (.ofString "e") := by
  refine byRow2 "special-get-raises" (P := fun w => HashRuns w (.ofString "e")) (fun w => ?_) (fun w => ?_) w
  all_goals
    intro T n k tk os pos gd lv
    rw [Fast.te10110043849684766642, Fast.te14364793385576792824, Fast.te10540108854288196387]
    kernel_rfl!
theorem hash_2 (w : World) : HashRuns w (.ofString "i") := by
  refine byRow2 "special-get-raises" (P := fun w => HashRuns w (.ofString "i")) (fun w => ?_) (fun w => ?_) w
  all_goals
    intro T n k tk os pos gd lv
    rw [Fast.te10110043849684766642, Fast.te14364793385576792824, Fast.te10540108854288196387]
    kernel_rfl!
theorem hash_3 (w : World) : HashRuns w (.ofString "o") := by
  refine byRow2 "special-get-raises" (P := fun w => HashRuns w (.ofString "o")) (fun w => ?_) (fun w => ?_) w
  all_goals
    intro T n k tk os pos gd lv
    rw [Fast.te10110043849684766642, Fast.te14364793385576792824, Fast.te10540108854288196387]
    kernel_rfl!
theorem hash_4 (w : World) : HashRuns w (.ofString "u") := by
  refine byRow2 "special-get-raises" (P := fun w => HashRuns w (.ofString "u")) (fun w => ?_) (fun w => ?_) w
  all_goals
    intro T n k tk os pos gd lv
    rw [Fast.te10110043849684766642, Fast.te14364793385576792824, Fast.te10540108854288196387]
    kernel_rfl!
theorem hash_5 (w : World) : HashRuns w (.ofString "y") := by
  refine byRow2 "special-get-raises" (P := fun w => HashRuns w (.ofString "y")) (fun w => ?_) (fun w => ?_) w
  all_goals
    intro T n k tk os pos gd lv
    rw [Fast.te10110043849684766642, Fast.te14364793385576792824, Fast.te10540108854288196387]
    kernel_rfl!
theorem hash_6 (w : World) : HashRuns w (.ofString "è") := by
  refine byRow2 "special-get-raises" (P := fun w => HashRuns w (.ofString "è")) (fun w => ?_) (fun w => ?_) w
  all_goals
    intro T n k tk os pos gd lv
    rw [Fast.te10110043849684766642, Fast.te14364793385576792824, Fast.te10540108854288196387]
    kernel_rfl!
theorem hash_7 (w : World) : HashRuns w (.ofString "I") := by
  refine byRow2 "special-get-raises" (P := fun w => HashRuns w (.ofString "I")) (fun w => ?_) (fun w => ?_) w
  all_goals
    intro T n k tk os pos gd lv
    rw [Fast.te10110043849684766642, Fast.te14364793385576792824, Fast.te10540108854288196387]
    kernel_rfl!
theorem hash_8 (w : World) : HashRuns w (.ofString "j") := by
  refine byRow2 "special-get-raises" (P := fun w => HashRuns w (.ofString "j")) (fun w => ?_) (fun w => ?_) w
  all_goals
    intro T n k tk os pos gd lv
    rw [Fast.te10110043849684766642, Fast.te14364793385576792824, Fast.te10540108854288196387]
    kernel_rfl!
section
variable {w : World} {os : OsState}
theorem two_B1 : (B1 w os).length = 2 := rfl
theorem lt_B1 : 1 < (B1 w os).length := by rw [two_B1]; decide
theorem gen_B1 : splitAtGen (B1 w os) = none := rfl
theorem hash_runs {x : Str} (h : HashRuns w x) (T : BT) (n k tk : Nat) (pos : Pos) :
    RunsTo pw w cc (B1 w os) 20 (pyHash (.str x tk)) (mkS T n k os).abs pos (PyData.keyHash w.params x) (mkS T n (k + 1) os).abs pos :=
  RunsTo.of_seg (res := fun h => .ret (.int h 0)) gen_B1 lt_B1 (fun a' e => by injection e with e; injection e) fun gd lv => by
    rw [two_B1]; exact segRun_of (h T n k tk os pos gd lv)
def consts (k : Nat) : List Str → List Value
  | [] => []
  | x :: r => .str x k :: consts (k + 1) r
def addAll (P : Params) (tk : Nat) : List Str → SetSt → SetSt
  | [], st => st
  | x :: r, st => addAll P (tk + 1) r (addSt P x tk st)
structure HoleT (a : Addr) (tr : Obj → BT) (n : Nat) : Prop where
  big : Nat.ble 11 a = true
  lt : a < n
  get : ∀ o, (tr o).get a = some o
  upd : ∀ o f, (tr o).set a f = tr (f o)
theorem HoleT.hole {a : Addr} {tr : Obj → BT} {n : Nat} (h : HoleT a tr n) : Hole a (fun o k => (mkS (tr o) n k os).abs) where
  big := h.big
  get := fun x k => abs_get h.lt (h.get (SO x))
  upd := fun x y k f e => by
    have q := absHeap_set (n := n) (life := ({} : Life)) (f := f) (h.get (SO x))
    rw [h.upd, e] at q; show ({ heap := (absHeap (tr (SO x)) n {}).update a f, gens := #[], drawn := {}, toks := k, os := os } : Shared) = _; rw [← q]; rfl
  tok := fun o k => ⟨rfl, rfl⟩
variable {a : Addr} {tr : Obj → BT} {n : Nat} {pos : Pos}
theorem consts_runs (spos : Pos) (env : Env) (T : BT) (n : Nat) : ∀ (xs : List Str) (k : Nat),
    RunsTo pw w cc (B1 w os) (2 * xs.length) (evalAll (xs.map fun x => do let v ← constValue env (.str x); standAt spos; pure v)) (mkS T n k os).abs spos (consts k xs) (mkS T n (k + xs.length) os).abs spos
  | [], k => RunsTo.pure
  | x :: r, k => by
    have ih := consts_runs spos env T n r (k + 1)
    rw [show 2 * (x :: r).length = (1 + (1 + 0)) + (2 * r.length + 0) by simp only [List.length_cons]; omega, show k + (x :: r).length = k + 1 + r.length by simp only [List.length_cons]; omega]; show RunsTo pw w cc (B1 w os) _ ((do let v ← (do return Value.str x (← fresh) : Sem Value); standAt spos; pure v) >>= fun v => holding [v] (evalAll (r.map fun x => do let v ← constValue env (.str x); standAt spos; pure v)) >>= fun l => pure (v :: l)) _ _ _ _ _; refine RunsTo.bind (a := .str x k) (s' := (mkS T n (k + 1) os).abs) (pos' := spos) ?_ ?_
    · refine RunsTo.bind (k := 1) (k' := 1 + 0) (a := .str x k) (s' := (mkS T n (k + 1) os).abs) (pos' := spos) ?_ ?_
      · refine RunsTo.bind (k := 1) (k' := 0) (RunsTo.fresh lt_B1) ?_
        exact RunsTo.pure
      · exact RunsTo.bind (k := 1) (k' := 0) (RunsTo.standAt lt_B1) RunsTo.pure
    · exact RunsTo.bind (k' := 0) (RunsTo.holding ih) RunsTo.pure
theorem adds_runs (H : HoleT a tr n) : ∀ (xs : List Str) (st : SetSt) (tk k m : Nat) (T : Str → Bool), (∀ x ∈ xs, HashRuns w x) → xs.Nodup → (∀ x ∈ xs, T x = false) → Bears w.params st T m → m + xs.length < scanBound →
    RunsTo pw w cc (B1 w os) (30 * xs.length) (forIn (consts tk xs) PUnit.unit fun x _ => do let _ ← setAdd a x; pure (ForInStep.yield PUnit.unit))
      (mkS (tr (SO st)) n k os).abs pos PUnit.unit (mkS (tr (SO (addAll w.params tk xs st))) n (k + xs.length) os).abs pos ∧ ∃ T', Bears w.params (addAll w.params tk xs st) T' (m + xs.length) ∧ ∀ y, T' y = (T y || decide (y ∈ xs))
  | [], st, tk, k, m, T, _, _, _, hb, _ => ⟨RunsTo.pure, T, hb, fun y => by simp⟩
  | x :: r, st, tk, k, m, T, hh, hn, hT, hb, hm => by
    obtain ⟨hx, hr⟩ := List.nodup_cons.mp hn
    have hTx := hT x (.head _)
    have ad := add_runs (p := pw) (w := w) (c := cc) (B := B1 w os) (pos := pos) (k := k + 1) (tk := tk) lt_B1 (H.hole (os := os)) hb hTx (by simp only [List.length_cons] at hm; omega)
    have hb1 := bears_add x tk hb
    obtain ⟨ih1, T', ih2, ih3⟩ := adds_runs H r (addSt w.params x tk st) (tk + 1) (k + 1) (m + 1) _ (fun y hy => hh y (.tail _ hy)) hr (fun y hy => by
      have : y ≠ x := fun e => hx (e ▸ hy)
      simp [hT y (.tail _ hy), this]) hb1 (by simp only [List.length_cons] at hm; omega)
    refine ⟨?_, T', ?_, fun y => ?_⟩
    · show RunsTo pw w cc (B1 w os) _ (forIn (Value.str x tk :: consts (tk + 1) r) PUnit.unit _) _ _ _ _ _
      rw [List.forIn_cons, show 30 * (x :: r).length = ((20 + 10) + 0) + (30 * r.length) by simp only [List.length_cons]; omega, show k + (x :: r).length = k + 1 + r.length by simp only [List.length_cons]; omega]; refine RunsTo.bind (a := ForInStep.yield PUnit.unit) (s' := (mkS (tr (SO (addSt w.params x tk st))) n (k + 1) os).abs) (pos' := pos) ?_ ih1; refine RunsTo.bind (a := true) (s' := (mkS (tr (SO (addSt w.params x tk st))) n (k + 1) os).abs) (pos' := pos) ?_ RunsTo.pure; unfold setAdd; refine RunsTo.holding ?_; exact RunsTo.bind (hash_runs (hh x (.head _)) (tr (SO st)) n k tk pos) ad
    · rw [show m + (x :: r).length = m + 1 + r.length by simp only [List.length_cons]; omega]
      exact ih2
    · rw [ih3 y]
      simp only [List.mem_cons, Bool.or_assoc, Bool.decide_or]
end
end Mine
namespace Mine
set_option maxHeartbeats 400000 in
theorem setStmt_runs {w : World} {os : OsState} {a : Addr} {tr : Obj → BT} {tr' : Obj → BT} {T0 : BT} {n k0 k1 : Nat} {id : Str} {npos spos apos pos pos' : Pos} {xs : List Str}
    {elts : List PySem.Expr} (H : HoleT a tr n)
    (he : starEach elts cenv = xs.map fun x => (false, constValue cenv (.str x)))
    (hlen : elts.length = xs.length) (hroad : displayRoad 0 elts = .unsure) (h30 : xs.length ≤ 30)
    (hpush : ∀ o k, { (mkS T0 a k os).abs with heap := (mkS T0 a k os).abs.heap.push o } = (mkS (tr o) n k os).abs)
    (hmain : ∃ b, RunsTo pw w cc (B1 w os) 10 (inMainModule cenv) (mkS T0 a k0 os).abs spos b (mkS T0 a k0 os).abs spos)
    (hh : ∀ x ∈ xs, HashRuns w x) (hn : xs.Nodup)
    (hfin : ∀ o, RunsTo pw w cc (B1 w os) 30 (assignAll (.ref a) [assign (.Name id npos) cenv]) (mkS (tr o) n (k0 + xs.length + xs.length) os).abs spos () (mkS (tr' o) n k1 os).abs pos') :
    RunsTo pw w cc (B1 w os) (100 + 50 * xs.length) (exec (.Assign [.Name id npos] (.Set elts 0 spos) apos) cenv) (mkS T0 a k0 os).abs pos .next
      (mkS (tr' (SO (unledSt (addAll w.params k0 xs (st0 w.params))))) n k1 os).abs pos' := by
  obtain ⟨bm, hmain⟩ := hmain; obtain ⟨hadd, T', hT1, hT2⟩ := adds_runs (w := w) (os := os) (pos := spos) H xs (st0 w.params) k0 (k0 + xs.length) 0 (fun _ => false) hh hn (fun _ _ => rfl) (bears_fresh _ _) (by have : scanBound = 4096 := rfl; omega)
  have hun := unled_runs (p := pw) (w := w) (c := cc) (B := B1 w os) (pos := spos) (k := k0 + xs.length + xs.length) lt_B1 (H.hole (os := os)) hT1 (by have : scanBound = 4096 := rfl; omega)
  have hcons := consts_runs (w := w) (os := os) spos cenv (tr (SO (st0 w.params))) n xs k0
  refine RunsTo.mono (k := 1 + (0 + ((1 + (10 + (2 + (2 * xs.length + (30 * xs.length + (1 + (3 + (0 + 0)))))))) + (0 + (30 + 0))))) ?_ (by omega); rw [arm_exec_Assign]; refine RunsTo.bind (RunsTo.standAt lt_B1) ?_; refine RunsTo.bind (k := 0) (a := false) (m := swapsWithSole _ _ _ _) RunsTo.pure ?_; rw [if_neg Bool.false_ne_true]; refine RunsTo.bind (a := .ref a) (s' := (mkS (tr (SO (unledSt (addAll w.params k0 xs (st0 w.params))))) n (k0 + xs.length + xs.length) os).abs) (pos' := spos) ?_ ?_
  · rw [arm_eval_Set]
    refine RunsTo.bind (RunsTo.standAt lt_B1) ?_; refine RunsTo.bind hmain ?_; rw [hroad, he]
    have hl : (xs.map fun x => ((false, constValue cenv (.str x)) : Bool × Sem Value)).map (fun (star, t) => (star, do let v ← t; standAt spos; pure v)) = xs.map fun x => (false, do let v ← constValue cenv (.str x); standAt spos; pure v) := by
      rw [List.map_map]; rfl
    rw [hl]; unfold setDisplay
    dsimp only
    rw [if_neg (by decide)]; refine RunsTo.bind (a := .ref a) (s' := (mkS (tr (SO (st0 w.params))) n k0 os).abs) (pos' := spos) (k := 2) ?_ ?_
    · unfold newSet
      refine RunsTo.bind (k := 1) (k' := 1) (a := w.params.followText "set-order") (s' := (mkS T0 a k0 os).abs) (pos' := spos) ?_ ?_
      · unfold setsByText
        exact RunsTo.bind (k := 1) (k' := 0) (RunsTo.ask lt_B1) RunsTo.pure
      · unfold newObj newObjAsIs
        dsimp only
        rw [if_neg (by decide)]; refine RunsTo.bind (k := 1) (k' := 0) (RunsTo.alloc lt_B1) ?_; rw [show (mkS T0 a k0 os).abs.heap.objs.size = a from absHeap_size _ _ _]
        have := hpush (SO (st0 w.params)) k0
        rw [← this]; exact RunsTo.pure
    · dsimp only
      have hidx : (xs.map fun x => ((false, do let v ← constValue cenv (.str x); standAt spos; pure v) : Bool × Sem Value)).findIdx? (·.1) = none := by
        rw [List.findIdx?_eq_none_iff]
        intro y hy
        obtain ⟨_, _, rfl⟩ := List.mem_map.mp hy; rfl
      have hnf : (if (xs.map fun x => ((false, do let v ← constValue cenv (.str x); standAt spos; pure v) : Bool × Sem Value)).length > 30 then 0 else ((xs.map fun x => ((false, do let v ← constValue cenv (.str x); standAt spos; pure v) : Bool × Sem Value)).findIdx? (·.1)).getD (xs.map fun x => ((false, do let v ← constValue cenv (.str x); standAt spos; pure v) : Bool × Sem Value)).length) = (xs.map fun x => ((false, do let v ← constValue cenv (.str x); standAt spos; pure v) : Bool × Sem Value)).length := by
        rw [if_neg (by rw [List.length_map]; omega), hidx]; rfl
      rw [hnf, List.take_length, List.drop_length, List.map_map]; refine RunsTo.mono (k := (2 * xs.length + (30 * xs.length + (1 + 3))) + (0 + 0)) ?_ (by omega); refine RunsTo.bind (a := ()) (s' := (mkS (tr (SO (unledSt (addAll w.params k0 xs (st0 w.params))))) n (k0 + xs.length + xs.length) os).abs) (pos' := spos) ?_ ?_
      · refine RunsTo.holding ?_
        refine RunsTo.bind hcons ?_; refine RunsTo.mono (k := (30 * xs.length + (1 + 3)) + (0 + 0)) ?_ (by omega); refine RunsTo.bind (a := ()) (s' := (mkS (tr (SO (unledSt (addAll w.params k0 xs (st0 w.params))))) n (k0 + xs.length + xs.length) os).abs) (pos' := spos) ?_ ?_
        · refine RunsTo.holding ?_
          refine RunsTo.bind hadd ?_; rw [if_pos (show (DisplayRoad.unsure == DisplayRoad.unsure) = true from rfl)]; exact RunsTo.bind (RunsTo.rule lt_B1) hun
        · rw [List.forIn_nil]
          exact RunsTo.bind (k := 0) (k' := 0) RunsTo.pure RunsTo.pure
      · exact RunsTo.pure
  · refine RunsTo.bind (k := 0) (a := none) RunsTo.pure ?_
    show RunsTo pw w cc (B1 w os) _ (do assignAll (Value.ref a) [assign (.Name id npos) cenv]; pure Flow.next : Sem Flow) _ _ _ _ _
    exact RunsTo.bind (hfin _) RunsTo.pure
end Mine
namespace Mine
def elts0 : List PySem.Expr := [.Constant (.str (.ofString "a")) 0 ⟨211, 11, 211, 14⟩, .Constant (.str (.ofString "e")) 0 ⟨211, 16, 211, 19⟩, .Constant (.str (.ofString "i")) 0 ⟨211, 21, 211, 24⟩, .Constant (.str (.ofString "o")) 0 ⟨211, 26, 211, 29⟩, .Constant (.str (.ofString "u")) 0 ⟨211, 31, 211, 34⟩, .Constant (.str (.ofString "y")) 0 ⟨211, 36, 211, 39⟩, .Constant (.str (.ofString "è")) 0 ⟨211, 41, 211, 45⟩]
def xs0 : List Str := [.ofString "a", .ofString "e", .ofString "i", .ofString "o", .ofString "u", .ofString "y", .ofString "è"]
theorem stmt0_is : at_ cbody 0 = .Assign [.Name (.ofString "g_v") ⟨211, 4, 211, 7⟩] (.Set elts0 0 ⟨211, 10, 211, 46⟩) ⟨211, 4, 211, 46⟩ := by kernel_rfl!
theorem hole0 (P : Params) : HoleT 230 (trN0 P) 231 where
  big := rfl
  lt := by decide
  get := fun o => by kernel_rfl!
  upd := fun o f => by kernel_rfl!
theorem push0 (w : World) (os : OsState) (o : Obj) (k : Nat) : { (mkS (trA w.params) 230 k os).abs with heap := (mkS (trA w.params) 230 k os).abs.heap.push o } = (mkS (trN0 w.params o) 231 k os).abs := by
  have e : ((trA w.params)).ins 230 o = trN0 w.params o := by kernel_rfl!
  have q := absHeap_ins (t := (trA w.params)) (n := 230) (life := ({} : Life)) (o := o) (by rw [e, (hole0 w.params).get]; rfl)
  rw [e] at q; show ({ heap := (absHeap (trA w.params) 230 {}).push o, gens := #[], drawn := {}, toks := k, os := os } : Shared) = _; rw [← q]; rfl
theorem fin0 (w : World) (os : OsState) (o : Obj) : RunsTo pw w cc (B1 w os) 30 (assignAll (.ref 230) [assign (.Name (.ofString "g_v") ⟨211, 4, 211, 7⟩) cenv]) (mkS (trN0 w.params o) 231 499 os).abs ⟨211, 10, 211, 46⟩ () (mkS (trB0 w.params o) 231 500 os).abs ⟨211, 4, 211, 7⟩ :=
  RunsTo.of_seg (res := fun _ : Unit => Flow.next) gen_B1 lt_B1 (fun _ _ => rfl) fun gd lv => by
    rw [two_B1]; refine segRun_of ?_; rw [Fast.te10110043849684766642, Fast.te14364793385576792824]
    kernel_rfl!
theorem main0 (w : World) (os : OsState) : ∃ b, RunsTo pw w cc (B1 w os) 10 (inMainModule cenv) (mkS (trA w.params) 230 485 os).abs ⟨211, 10, 211, 46⟩ b (mkS (trA w.params) 230 485 os).abs ⟨211, 10, 211, 46⟩ :=
  ⟨true, RunsTo.of_seg (res := fun b : Bool => Flow.ret (.bool b)) gen_B1 lt_B1 (fun a' e => by injection e with e; injection e) fun gd lv => by
    rw [two_B1]; refine segRun_of ?_; rw [Fast.te10110043849684766642, Fast.te14364793385576792824]
    kernel_rfl!⟩
theorem set0 (w : World) (os : OsState) : RunsTo pw w cc (B1 w os) 500 (exec (at_ cbody 0) cenv) (mkS (trA w.params) 230 485 os).abs ⟨210, 0, 564, 94⟩ .next (mkS (trB0 w.params (gO0 w.params)) 231 500 os).abs ⟨211, 4, 211, 7⟩ := by
  rw [stmt0_is]
  exact (setStmt_runs (xs := xs0) (hole0 w.params) rfl rfl rfl (by decide) (push0 w os) (main0 w os) (by
    intro x hx
    simp only [xs0, List.mem_cons, List.not_mem_nil, or_false] at hx
    rcases hx with rfl | rfl | rfl | rfl | rfl | rfl | rfl
    · exact hash_0 w
    · exact hash_1 w
    · exact hash_2 w
    · exact hash_3 w
    · exact hash_4 w
    · exact hash_5 w
    · exact hash_6 w) (by decide +kernel) (fin0 w os)).mono (by decide)
def elts1 : List PySem.Expr := [.Constant (.str (.ofString "I")) 0 ⟨212, 13, 212, 16⟩, .Constant (.str (.ofString "a")) 0 ⟨212, 18, 212, 21⟩, .Constant (.str (.ofString "e")) 0 ⟨212, 23, 212, 26⟩, .Constant (.str (.ofString "i")) 0 ⟨212, 28, 212, 31⟩, .Constant (.str (.ofString "o")) 0 ⟨212, 33, 212, 36⟩, .Constant (.str (.ofString "u")) 0 ⟨212, 38, 212, 41⟩, .Constant (.str (.ofString "y")) 0 ⟨212, 43, 212, 46⟩, .Constant (.str (.ofString "è")) 0 ⟨212, 48, 212, 52⟩]
def xs1 : List Str := [.ofString "I", .ofString "a", .ofString "e", .ofString "i", .ofString "o", .ofString "u", .ofString "y", .ofString "è"]
theorem stmt1_is : at_ cbody 1 = .Assign [.Name (.ofString "g_v_I") ⟨212, 4, 212, 9⟩] (.Set elts1 0 ⟨212, 12, 212, 53⟩) ⟨212, 4, 212, 53⟩ := by kernel_rfl!
theorem hole1 (P : Params) : HoleT 231 (trN1 P) 232 where
  big := rfl
  lt := by decide
  get := fun o => by kernel_rfl!
  upd := fun o f => by kernel_rfl!
theorem push1 (w : World) (os : OsState) (o : Obj) (k : Nat) : { (mkS (trB0 w.params (gO0 w.params)) 231 k os).abs with heap := (mkS (trB0 w.params (gO0 w.params)) 231 k os).abs.heap.push o } = (mkS (trN1 w.params o) 232 k os).abs := by
  have e : ((trB0 w.params (gO0 w.params))).ins 231 o = trN1 w.params o := by kernel_rfl!
  have q := absHeap_ins (t := (trB0 w.params (gO0 w.params))) (n := 231) (life := ({} : Life)) (o := o) (by rw [e, (hole1 w.params).get]; rfl)
  rw [e] at q; show ({ heap := (absHeap (trB0 w.params (gO0 w.params)) 231 {}).push o, gens := #[], drawn := {}, toks := k, os := os } : Shared) = _; rw [← q]; rfl
theorem fin1 (w : World) (os : OsState) (o : Obj) : RunsTo pw w cc (B1 w os) 30 (assignAll (.ref 231) [assign (.Name (.ofString "g_v_I") ⟨212, 4, 212, 9⟩) cenv]) (mkS (trN1 w.params o) 232 516 os).abs ⟨212, 12, 212, 53⟩ () (mkS (trB1 w.params o) 232 517 os).abs ⟨212, 4, 212, 9⟩ :=
  RunsTo.of_seg (res := fun _ : Unit => Flow.next) gen_B1 lt_B1 (fun _ _ => rfl) fun gd lv => by
    rw [two_B1]; refine segRun_of ?_; rw [Fast.te10110043849684766642, Fast.te14364793385576792824]
    kernel_rfl!
theorem main1 (w : World) (os : OsState) : ∃ b, RunsTo pw w cc (B1 w os) 10 (inMainModule cenv) (mkS (trB0 w.params (gO0 w.params)) 231 500 os).abs ⟨212, 12, 212, 53⟩ b (mkS (trB0 w.params (gO0 w.params)) 231 500 os).abs ⟨212, 12, 212, 53⟩ :=
  ⟨true, RunsTo.of_seg (res := fun b : Bool => Flow.ret (.bool b)) gen_B1 lt_B1 (fun a' e => by injection e with e; injection e) fun gd lv => by
    rw [two_B1]; refine segRun_of ?_; rw [Fast.te10110043849684766642, Fast.te14364793385576792824]
    kernel_rfl!⟩
theorem set1 (w : World) (os : OsState) : RunsTo pw w cc (B1 w os) 500 (exec (at_ cbody 1) cenv) (mkS (trB0 w.params (gO0 w.params)) 231 500 os).abs ⟨211, 4, 211, 7⟩ .next (mkS (trB1 w.params (gO1 w.params)) 232 517 os).abs ⟨212, 4, 212, 9⟩ := by
  rw [stmt1_is]
  exact (setStmt_runs (xs := xs1) (hole1 w.params) rfl rfl rfl (by decide) (push1 w os) (main1 w os) (by
    intro x hx
    simp only [xs1, List.mem_cons, List.not_mem_nil, or_false] at hx
    rcases hx with rfl | rfl | rfl | rfl | rfl | rfl | rfl | rfl
    · exact hash_7 w
    · exact hash_0 w
    · exact hash_1 w
    · exact hash_2 w
    · exact hash_3 w
    · exact hash_4 w
    · exact hash_5 w
    · exact hash_6 w) (by decide +kernel) (fin1 w os)).mono (by decide)
def elts2 : List PySem.Expr := [.Constant (.str (.ofString "a")) 0 ⟨213, 13, 213, 16⟩, .Constant (.str (.ofString "e")) 0 ⟨213, 18, 213, 21⟩, .Constant (.str (.ofString "i")) 0 ⟨213, 23, 213, 26⟩, .Constant (.str (.ofString "j")) 0 ⟨213, 28, 213, 31⟩, .Constant (.str (.ofString "o")) 0 ⟨213, 33, 213, 36⟩, .Constant (.str (.ofString "u")) 0 ⟨213, 38, 213, 41⟩, .Constant (.str (.ofString "y")) 0 ⟨213, 43, 213, 46⟩, .Constant (.str (.ofString "è")) 0 ⟨213, 48, 213, 52⟩]
def xs2 : List Str := [.ofString "a", .ofString "e", .ofString "i", .ofString "j", .ofString "o", .ofString "u", .ofString "y", .ofString "è"]
theorem stmt2_is : at_ cbody 2 = .Assign [.Name (.ofString "g_v_j") ⟨213, 4, 213, 9⟩] (.Set elts2 0 ⟨213, 12, 213, 53⟩) ⟨213, 4, 213, 53⟩ := by kernel_rfl!
theorem hole2 (P : Params) : HoleT 232 (trN2 P) 233 where
  big := rfl
  lt := by decide
  get := fun o => by kernel_rfl!
  upd := fun o f => by kernel_rfl!
theorem push2 (w : World) (os : OsState) (o : Obj) (k : Nat) : { (mkS (trB1 w.params (gO1 w.params)) 232 k os).abs with heap := (mkS (trB1 w.params (gO1 w.params)) 232 k os).abs.heap.push o } = (mkS (trN2 w.params o) 233 k os).abs := by
  have e : ((trB1 w.params (gO1 w.params))).ins 232 o = trN2 w.params o := by kernel_rfl!
  have q := absHeap_ins (t := (trB1 w.params (gO1 w.params))) (n := 232) (life := ({} : Life)) (o := o) (by rw [e, (hole2 w.params).get]; rfl)
  rw [e] at q; show ({ heap := (absHeap (trB1 w.params (gO1 w.params)) 232 {}).push o, gens := #[], drawn := {}, toks := k, os := os } : Shared) = _; rw [← q]; rfl
theorem fin2 (w : World) (os : OsState) (o : Obj) : RunsTo pw w cc (B1 w os) 30 (assignAll (.ref 232) [assign (.Name (.ofString "g_v_j") ⟨213, 4, 213, 9⟩) cenv]) (mkS (trN2 w.params o) 233 533 os).abs ⟨213, 12, 213, 53⟩ () (mkS (trB2 w.params o) 233 534 os).abs ⟨213, 4, 213, 9⟩ :=
  RunsTo.of_seg (res := fun _ : Unit => Flow.next) gen_B1 lt_B1 (fun _ _ => rfl) fun gd lv => by
    rw [two_B1]; refine segRun_of ?_; rw [Fast.te10110043849684766642, Fast.te14364793385576792824]
    kernel_rfl!
theorem main2 (w : World) (os : OsState) : ∃ b, RunsTo pw w cc (B1 w os) 10 (inMainModule cenv) (mkS (trB1 w.params (gO1 w.params)) 232 517 os).abs ⟨213, 12, 213, 53⟩ b (mkS (trB1 w.params (gO1 w.params)) 232 517 os).abs ⟨213, 12, 213, 53⟩ :=
  ⟨true, RunsTo.of_seg (res := fun b : Bool => Flow.ret (.bool b)) gen_B1 lt_B1 (fun a' e => by injection e with e; injection e) fun gd lv => by
    rw [two_B1]; refine segRun_of ?_; rw [Fast.te10110043849684766642, Fast.te14364793385576792824]
    kernel_rfl!⟩
theorem set2 (w : World) (os : OsState) : RunsTo pw w cc (B1 w os) 500 (exec (at_ cbody 2) cenv) (mkS (trB1 w.params (gO1 w.params)) 232 517 os).abs ⟨212, 4, 212, 9⟩ .next (mkS (trB2 w.params (gO2 w.params)) 233 534 os).abs ⟨213, 4, 213, 9⟩ := by
  rw [stmt2_is]
  exact (setStmt_runs (xs := xs2) (hole2 w.params) rfl rfl rfl (by decide) (push2 w os) (main2 w os) (by
    intro x hx
    simp only [xs2, List.mem_cons, List.not_mem_nil, or_false] at hx
    rcases hx with rfl | rfl | rfl | rfl | rfl | rfl | rfl | rfl
    · exact hash_0 w
    · exact hash_1 w
    · exact hash_2 w
    · exact hash_8 w
    · exact hash_3 w
    · exact hash_4 w
    · exact hash_5 w
    · exact hash_6 w) (by decide +kernel) (fin2 w os)).mono (by decide)
end Mine
namespace Mine
section
variable {w : World} {os : OsState}
theorem body_piece {n N : Nat} {s s' : Shared} {l rest : List Stmt} {pos pos' : Pos} {r : Flow × Shared × Code × Pos}
    (h : segRun treeTable pw w 11 (some (.ref 6)) 2 n s (piecesOf l cenv cc pos (B1 w os)) = some (.next, s', cc, pos'))
    (k : segRun treeTable pw w 11 (some (.ref 6)) 1 N s' ⟨(execs rest cenv).wrap doneF (leaveH cenv) id id, cc, pos', B1 w os⟩ = some r) :
    segRun treeTable pw w 11 (some (.ref 6)) 1 (n + N) s ⟨(execs (l ++ rest) cenv).wrap doneF (leaveH cenv) id id, cc, pos, B1 w os⟩ = some r := by
  rw [execs_app_wrap]; obtain ⟨a, ha, hN⟩ := seg_in (b := 1) (res := id) (K' := fun f => match f with | .next => (execs rest cenv).wrap doneF (leaveH cenv) id id | f => doneF f) (H' := leaveH cenv) (gd := id) (lv := id) (gen_B1 (w := w) (os := os)) lt_B1 n s
    (piecesOf l cenv cc pos (B1 w os)) ⟨(execs l cenv).wrap (fun f => match f with | .next => (execs rest cenv).wrap doneF (leaveH cenv) id id | f => doneF f) (leaveH cenv) id id, cc, pos, B1 w os⟩ _ _ _ _ ⟨rfl, rfl, .inl ⟨rfl, rfl, _, rfl, rfl⟩⟩ h
  obtain rfl : a = .next := ha; exact hN N r k
theorem body_stmt {n N : Nat} {s s' : Shared} {st : Stmt} {rest : List Stmt} {pos pos' : Pos} {r : Flow × Shared × Code × Pos}
    (h : RunsTo pw w cc (B1 w os) n (exec st cenv) s pos .next s' pos')
    (k : segRun treeTable pw w 11 (some (.ref 6)) 1 N s' ⟨(execs rest cenv).wrap doneF (leaveH cenv) id id, cc, pos', B1 w os⟩ = some r) :
    segRun treeTable pw w 11 (some (.ref 6)) 1 (n + N) s ⟨(execs (st :: rest) cenv).wrap doneF (leaveH cenv) id id, cc, pos, B1 w os⟩ = some r := by
  rw [execs_cons_wrap]; exact h _ _ _ _ N r k
theorem cbody_is : cbody = at_ cbody 0 :: at_ cbody 1 :: at_ cbody 2 :: ((cbody.drop 3).take 13 ++ ((cbody.drop 16).take 1 ++ ((cbody.drop 17).take 1 ++ ((cbody.drop 18).take 1 ++ ((cbody.drop 19).take 1 ++ ((cbody.drop 20).take 1 ++ ((cbody.drop 21).take 1 ++ []))))))) := by kernel_rfl!
theorem blockStart_is : blockStart cbody cenv = pure () := by kernel_rfl!
theorem runBody (w : World) (os : OsState) : segRun treeTable pw w 11 (some (.ref 6)) 1 (500 + (500 + (500 + (356 + (1832 + (512 + (537 + (857 + (1032 + (712 + 175)))))))))) (mkS (trA w.params) 230 485 os).abs ⟨denote treeTable cc, cc, posA, B1 w os⟩ =
    some (.next, (mkS (trC w.params) 410 1094 os).abs, cd0, posA) := by
  have e : denote treeTable cc = (execs cbody cenv).wrap doneF (leaveH cenv) id id := by
    show denote treeTable (.body cbody cenv) = _
    rw [body_wrap, blockStart_is]; rfl
  rw [e, cbody_is]; refine body_stmt (set0 w os) (body_stmt (set1 w os) (body_stmt (set2 w os) ?_)); refine body_piece (segRun_of (runM0 w os)) (body_piece (segRun_of (runM1 w os)) (body_piece (segRun_of (runM2 w os)) (body_piece (segRun_of (runM3 w os)) (body_piece (segRun_of (runM4 w os)) (body_piece (segRun_of (runM5 w os)) (body_piece (segRun_of (runM6 w os)) ?_)))))); exact segRun_of (runC w os)
theorem runClass (w : World) (os : OsState) : segRun treeTable pw w 11 (some (.ref 6)) 1 (64 + (500 + (500 + (500 + (356 + (1832 + (512 + (537 + (857 + (1032 + (712 + 175))))))))))) (mkS (S0.tree_307 w.params) 223 473 os).abs (piecesOf [at_ PW 6] S0.env_1 cd0 ⟨209, 0, 209, 8⟩ [fr0]) =
    some (.next, (mkS (trC w.params) 410 1094 os).abs, cd0, posA) := seg_go (segGo_of (runA_is w os)) (runBody w os)
theorem bB_is : bB = S0.sts_4 ++ (S0.sts_15 ++ (S0.sts_285 ++ ([at_ PW 6] ++ ((PW.drop 7).take 2 ++ ((PW.drop 9).take 2 ++ ((PW.drop 11).take 7 ++ ((PW.drop 18).take 8 ++ []))))))) := by kernel_rfl!
theorem preRun (w : World) (os : OsState) : topGo treeTable pw w 11 (some (.ref 6)) 12 ⟨boot_heap w.params, #[], boot_drawn, boot_toks, os⟩ (topStub pw) =
    some ((mkS (S0.tree_4 w.params) 15 187 os).abs, ⟨denote treeTable cd0, cd0, ⟨0, 0, 0, 0⟩, [fr0]⟩) := by
  rw [Fast.te15667345088766844465, Fast.te14364793385576792824, Fast.te11892475500146522536]
  kernel_rfl!
theorem blockRun (w : World) (os : OsState) : segRun treeTable pw w 11 (some (.ref 6)) 1 1 (mkS (S0.tree_4 w.params) 15 187 os).abs (blockOf bB S0.env_1 cd0 ⟨0, 0, 0, 0⟩ [fr0]) =
    some (.next, (mkS (S0.tree_4 w.params) 15 187 os).abs, cd0, ⟨0, 0, 0, 0⟩) := by kernel_rfl!
theorem finRun (w : World) (os : OsState) : topRun treeTable pw w 11 (some (.ref 6)) 3 (mkS (trG3 w.params) 541 1283 os).abs ⟨doneF .next, cd0, ⟨666, 0, 673, 86⟩, [fr0]⟩ = some (mkS (trG3 w.params) 541 1283 os).abs := by kernel_rfl!
abbrev stepsC : Nat := 64 + (500 + (500 + (500 + (356 + (1832 + (512 + (537 + (857 + (1032 + (712 + 175))))))))))
abbrev stepsAll : Nat := 12 + (1 + Nat.add 39 (Nat.add 984 (Nat.add 245 (stepsC + (393 + (393 + (152 + (240 + 3))))))))
theorem topRuns (w : World) (os : OsState) : topRun treeTable pw w 11 (some (.ref 6)) stepsAll ⟨boot_heap w.params, #[], boot_drawn, boot_toks, os⟩ (topStub pw) = some (mkS (trG3 w.params) 541 1283 os).abs := by
  refine go_top (preRun w os) (piece_block (blockRun w os) ?_); rw [bB_is]; refine S0.chain pw bB w os _ _ _ ?_; exact piece_app (runClass w os) (piece_app (segRun_of (runG0 w os)) (piece_app (segRun_of (runG1 w os)) (piece_app (segRun_of (runG2 w os)) (piece_app (segRun_of (runG3 w os)) (piece_nil (finRun w os))))))
end
end Mine
namespace Mine
noncomputable def qv : Program := { pw with main := { pw.main with body := [at_ PW 25] } }
def looseV : List Str := [.ofString "_wall", .ofString "BaseStemmer", .ofString "Among", .ofString "DutchPorterStemmer", .ofString "lab0", .ofString "lab1", .ofString "lab2", .ofString "lab3", .ofString "_law_signs", .ofString "_law_pieces", .ofString "_law_bare", .ofString "_law_vowels", .ofString "_law_word", .ofString "_law_marked", .ofString "_law_regions", .ofString "_law_ending", .ofString "_law_shut", .ofString "_law_single", .ofString "_law_less_en", .ofString "_law_less_e", .ofString "_law_stem"]
noncomputable def Hfin (P : Params) : Heap := absHeap (trG3 P) 541 {}
noncomputable def Xt0 (s : Shared) : Bool := xlAt qv [] s && recOk [] s
theorem openIs : opening pw = plainProg pw.main.scope.names := by kernel_rfl!
theorem fenceIs (s : Shared) : fenceModules? pw s = some s := by kernel_rfl!
theorem openL : ∀ w : World, (fencedOpening treeTable pw w 20000).map (fun s => (s.heap, s.gens, s.drawn, s.toks)) = some (boot_heap w.params, Array.mk [], boot_drawn, boot_toks) :=
  boot_open openIs (by decide) fenceIs
theorem sizeL (w : World) : ((boot_heap w.params).isNs mainGlobals && (#[] : Array GenState).size == 0, (boot_heap w.params).objs.size, (boot_heap w.params).nsMap mainGlobals "__annotations__") = (true, 11, some (.ref 6)) := by kernel_rfl!
theorem look1 (w : World) : staticsOk (importedModules pw.main.body) (boot_heap w.params) (Hfin w.params) = true := by kernel_rfl!
theorem look2 (w : World) : namesBound pw (Hfin w.params) = true := by kernel_rfl!
theorem look3 (w : World) (os : OsState) : gensDone ⟨Hfin w.params, #[], {}, 1283, os⟩ = true := by kernel_rfl!
theorem look4 (w : World) : laidKept (boot_heap w.params) (Hfin w.params) = true := by kernel_rfl!
theorem look5 (w : World) (os : OsState) : openSeen qv looseV (importedModules pw.main.body) Xt0 true ⟨Hfin w.params, #[], {}, 1283, os⟩ = openGood qv looseV := by kernel_rfl!
theorem left0 : LeftO pw qv looseV Xt0 (fun s => s.heap) (fun w => Hfin w.params) 20000 :=
  LeftO.of_pieces (H₀ := boot_heap) (H₁ := Hfin) (gs₀ := #[]) (gs₁ := #[]) (d₀ := boot_drawn) (d₁ := {}) (k₀ := boot_toks) (k₁ := 1283) (m₀ := 11) (ann := some (.ref 6)) (M := stepsAll) openL sizeL topRuns (by decide)
    (fun w => by
      funext os
      rw [look1, look2, look3, look4, look5]
      rfl)
end Mine
namespace Mine
inductive Atom where
  | int (i : Int)
  | str (s : Str)
  | cst (v : Value)
  | me
  deriving Inhabited
inductive AV where
  | at (a : Atom)
  | list (l : List Atom)
  | tup (l : List Atom)
  | own (l : List Atom)
  | dict (l : List (Str × Str))
  | rng (lo hi st : Int)
  deriving Inhabited
abbrev FL := List (Option Atom)
structure AS where
  loc : List (Option AV)
  fl : FL
inductive Bop where | add | sub | mod | shr deriving DecidableEq
inductive Cop where | lt | le | gt | ge | eq | ne | isin | notin deriving DecidableEq
mutual
inductive CE where
  | var (i : Nat)
  | int (n : Int)
  | neg (n : Int)
  | str (s : Str)
  | bool (b : Bool)
  | glob (x : Str)
  | fld (i : Nat)
  | cattr (x : Str)
  | amo (e : CE) (x : Str)
  | bin (o : Bop) (a b : CE)
  | cmp (o : Cop) (a b : CE)
  | not (a : CE)
  | and (l : CA)
  | or (l : CA)
  | ite (t a b : CE)
  | idx (a b : CE)
  | sliceTo (a hi : CE)
  | sliceFrom (a lo : CE)
  | slice (a lo hi : CE)
  | len (a : CE)
  | ord (a : CE)
  | min (a b : CE)
  | max (a b : CE)
  | range (l : CA)
  | endswith (a b : CE)
  | join (a : CE)
  | list (l : CA)
  | tup (l : CA)
  | dict (l : List (Str × Str))
  | callG (f : Nat) (l : CA)
  | callM (i : Nat) (f : Nat) (l : CA)
  | comp (elt src : CE) (caps : List Nat)
  | compIf (elt src cond : CE) (caps : List Nat)
inductive CA where
  | nil
  | cons (e : CE) (r : CA)
end
mutual
inductive CS where
  | assign (i : Nat) (e : CE)
  | assign2 (i j : Nat) (e : CE)
  | setf (i : Nat) (e : CE)
  | augf (i : Nat) (o : Bop) (e : CE)
  | aug (i : Nat) (o : Bop) (e : CE)
  | expr (e : CE)
  | append (i : Nat) (e : CE)
  | newOwn (i : Nat)
  | ite (t : CE) (a b : CB)
  | while (t : CE) (b : CB)
  | for (i : Nat) (e : CE) (b : CB)
  | try (k : Nat) (b : CB)
  | raise (k : Nat)
  | ret (e : CE)
  | pass
  | brk
  | cont
  | assert (e : CE)
inductive CB where
  | nil
  | cons (s : CS) (r : CB)
end
inductive Out where
  | next | brk | cont
  | ret (v : AV)
  | exc (k : Nat)
  deriving Inhabited
def AV.isOwn : AV → Bool
  | .own _ => true
  | _ => false
def AV.isSt : AV → Bool
  | .at _ => true
  | .list _ => true
  | .tup _ => true
  | _ => false
def AV.isDR : AV → Bool
  | .dict _ => true
  | .rng .. => true
  | _ => false
def small (n : Nat) : Bool := decide (n ≤ 100000)
def ab (b : Bool) : AV := .at (.cst (.bool b))
def ai (i : Int) : AV := .at (.int i)
def as (s : Str) : AV := .at (.str s)
def chr1 (c : Nat) : Str := ⟨#[c]⟩
def binV : Bop → AV → AV → Option AV
  | .add, .at (.int x), .at (.int y) => some (ai (x + y))
  | .sub, .at (.int x), .at (.int y) => some (ai (x - y))
  | .mod, .at (.int x), .at (.int y) => if 0 < y then some (ai (x.fmod y)) else none
  | .shr, .at (.int x), .at (.int y) => if y = 1 then some (ai (x.fdiv 2)) else none
  | .add, .at (.str x), .at (.str y) => if small (x.length + y.length) then some (as (x ++ y)) else none
  | .add, .list x, .list y => if small (x.length + y.length) then some (.list (x ++ y)) else none
  | _, _, _ => none
def dictGet (x : Str) : List (Str × Str) → Option Str
  | [] => none
  | (k, v) :: r => if k = x then some v else dictGet x r
def setAt (a : Addr) : Option (List Str) :=
  if a = 230 then some [chr1 97, chr1 101, chr1 105, chr1 111, chr1 117, chr1 121, chr1 232]
  else if a = 231 then some [chr1 73, chr1 97, chr1 101, chr1 105, chr1 111, chr1 117, chr1 121, chr1 232]
  else if a = 232 then some [chr1 97, chr1 101, chr1 105, chr1 106, chr1 111, chr1 117, chr1 121, chr1 232]
  else none
def augV : Bop → AV → AV → Option AV
  | .add, .at (.int x), .at (.int y) => some (ai (x + y))
  | .sub, .at (.int x), .at (.int y) => some (ai (x - y))
  | _, _, _ => none
def strsOf : List Atom → Option (List Str)
  | [] => some []
  | .str x :: r => (strsOf r).map (x :: ·)
  | _ :: _ => none
def inV (x : Str) : AV → Option Bool
  | .list l => (strsOf l).map fun xs => xs.any (· == x)
  | .dict l => some (dictGet x l).isSome
  | .at (.cst (.ref a)) => (setAt a).map fun l => l.contains x
  | _ => none
def cmpV : Cop → AV → AV → Option Bool
  | .lt, .at (.int x), .at (.int y) => some (decide (x < y))
  | .le, .at (.int x), .at (.int y) => some (decide (x ≤ y))
  | .gt, .at (.int x), .at (.int y) => some (decide (x > y))
  | .ge, .at (.int x), .at (.int y) => some (decide (x ≥ y))
  | .eq, .at (.int x), .at (.int y) => some (x == y)
  | .ne, .at (.int x), .at (.int y) => some (x != y)
  | .eq, .at (.str x), .at (.str y) => some (x == y)
  | .ne, .at (.str x), .at (.str y) => some (x != y)
  | .eq, .list x, .list y => (match strsOf x, strsOf y with | some a, some b => if a = b then some true else none | _, _ => none)
  | .isin, .at (.str x), c => inV x c
  | .notin, .at (.str x), c => (inV x c).map (!·)
  | _, _, _ => none
def items : AV → Option (List Atom)
  | .list l => some l
  | .own l => some l
  | _ => none
def amoList (a : Addr) : Option (List Addr) :=
  if a = 336 then some [304, 307, 310, 313, 316, 319, 322, 325, 328, 331, 334]
  else if a = 346 then some [338, 341, 344]
  else if a = 356 then some [348, 351, 354]
  else if a = 372 then some [358, 361, 364, 367, 370]
  else if a = 391 then some [374, 377, 380, 383, 386, 389]
  else if a = 404 then some [393, 396, 399, 402] else none
def idxV : AV → AV → Option AV
  | .at (.str s), .at (.int i) => if small s.length && decide (0 ≤ i) then (s.cps[i.toNat]?).map fun c => as (chr1 c) else none
  | .list l, .at (.int i) => if small l.length && decide (0 ≤ i) then (l[i.toNat]?).map .at else none
  | .own l, .at (.int i) => if small l.length && decide (0 ≤ i) then (l[i.toNat]?).map .at else none
  | .dict l, .at (.str x) => (dictGet x l).map as
  | .at (.cst (.ref a)), .at (.int i) => if decide (0 ≤ i) then (match amoList a with | some l => (l[i.toNat]?).map fun b => .at (.cst (.ref b)) | none => none) else none
  | _, _ => none
def sliceV : AV → Option Int → Option Int → Option AV
  | .at (.str s), lo, hi => if small s.length && decide (0 ≤ lo.getD 0) && decide (0 ≤ hi.getD 0) && decide (lo.getD 0 < 2 ^ 62) && decide (hi.getD 0 < 2 ^ 62) then
      some (as ⟨((match hi with | some h => s.cps.toList.take h.toNat | none => s.cps.toList).drop (lo.getD 0).toNat).toArray⟩) else none
  | .list l, lo, hi => if small l.length && decide (0 ≤ lo.getD 0) && decide (0 ≤ hi.getD 0) && decide (lo.getD 0 < 2 ^ 62) && decide (hi.getD 0 < 2 ^ 62) then
      some (.list ((match hi with | some h => l.take h.toNat | none => l).drop (lo.getD 0).toNat)) else none
  | _, _, _ => none
def lenV : AV → Option AV
  | .at (.str s) => if small s.length then some (ai s.length) else none
  | .list l => if small l.length then some (ai l.length) else none
  | .at (.cst (.ref a)) => (amoList a).map fun l => ai l.length
  | _ => none
def joinV : AV → Option AV
  | .list l => (match strsOf l with | some xs => if small (xs.length) && small ((xs.map (·.length)).sum) then some (as ⟨(xs.flatMap (·.cps.toList)).toArray⟩) else none | none => none)
  | .own l => (match strsOf l with | some xs => if small (xs.length) && small ((xs.map (·.length)).sum) then some (as ⟨(xs.flatMap (·.cps.toList)).toArray⟩) else none | none => none)
  | _ => none
def endsV : AV → AV → Option AV
  | .at (.str x), .at (.str y) => if small x.length && small y.length then some (ab (y.cps.toList.isSuffixOf x.cps.toList)) else none
  | _, _ => none
def rangeInts (lo hi st : Int) : Option (List Int) :=
  if st = 1 then (if small (hi - lo).toNat then some ((List.range (hi - lo).toNat).map fun (k : Nat) => lo + (k : Int)) else none)
  else if st = -1 then (if small (lo - hi).toNat then some ((List.range (lo - hi).toNat).map fun (k : Nat) => lo - (k : Int)) else none)
  else none
def rgOk (i : Int) : Bool := decide (-100000 ≤ i) && decide (i ≤ 100000)
def iterV : AV → Option (List Atom)
  | .list l => if small l.length then some l else none
  | .at (.str s) => if small s.length then some (s.cps.toList.map fun c => .str (chr1 c)) else none
  | .rng lo hi st => if rgOk lo && rgOk hi then (rangeInts lo hi st).map fun l => l.map .int else none
  | _ => none
def truth : AV → Option Bool
  | .at (.cst (.bool b)) => some b
  | _ => none
structure Tabs where
  glob : Str → Option AV
  cattr : Str → Option Addr
  amo : Addr → Str → Option Atom
abbrev Call := Nat → List AV → FL → Option (AV × FL)
def hasOwn (σ : AS) : Bool := σ.loc.any fun o => match o with
  | some v => v.isOwn
  | none => false
def isPl : Atom → Bool
  | .int _ => true
  | .str _ => true
  | .cst (.bool _) => true
  | _ => false
def selfIs (σ : AS) : Bool := match (σ.loc[0]? : Option (Option AV)) with
  | some (some (AV.at Atom.me)) => true
  | _ => false
def capsOf : List Nat → AS → Option (List AV)
  | [], _ => some []
  | i :: r, σ => match σ.loc[i]? with
    | some (some v) => (capsOf r σ).map (v :: ·)
    | _ => none
def atomsOf : List AV → Option (List Atom)
  | [] => some []
  | .at a :: r => (atomsOf r).map (a :: ·)
  | _ :: _ => none
def evMap (f : Atom → FL → Option (AV × FL)) : List Atom → FL → Option (List Atom × FL)
  | [], fl => some ([], fl)
  | a :: r, fl => match f a fl with
    | some (.at b, fl') => (evMap f r fl').map fun x => (b :: x.1, x.2)
    | _ => none
def evMapIf (f : Atom → FL → Option (AV × FL)) (c : Atom → FL → Option (Bool × FL)) : List Atom → FL → Option (List Atom × FL)
  | [], fl => some ([], fl)
  | a :: r, fl => match c a fl with
    | some (true, fl') => (match f a fl' with
      | some (.at b, fl'') => (evMapIf f c r fl'').map fun x => (b :: x.1, x.2)
      | _ => none)
    | some (false, fl') => evMapIf f c r fl'
    | none => none
section
variable (T : Tabs) (Γ : Call)
mutual
def evE : CE → AS → Option (AV × FL)
  | .var i, σ => match σ.loc[i]? with | some (some v) => some (v, σ.fl) | _ => none
  | .int n, σ => some (ai n, σ.fl)
  | .neg n, σ => some (ai (-n), σ.fl)
  | .str s, σ => some (as s, σ.fl)
  | .bool b, σ => some (ab b, σ.fl)
  | .glob x, σ => (T.glob x).map fun v => (v, σ.fl)
  | .fld i, σ => if selfIs σ then (match σ.fl[i]? with | some (some a) => some (.at a, σ.fl) | _ => none) else none
  | .cattr x, σ => (T.cattr x).map fun a => (.at (.cst (.ref a)), σ.fl)
  | .amo e x, σ => match evE e σ with
    | some (.at (.cst (.ref a)), fl) => (T.amo a x).map fun v => (.at v, fl)
    | _ => none
  | .bin o a b, σ => match evE a σ with
    | some (x, fl) => (match evE b ⟨σ.loc, fl⟩ with | some (y, fl') => (binV o x y).map fun v => (v, fl') | none => none)
    | none => none
  | .cmp o a b, σ => match evE a σ with
    | some (x, fl) => (match evE b ⟨σ.loc, fl⟩ with | some (y, fl') => (cmpV o x y).map fun v => (ab v, fl') | none => none)
    | none => none
  | .not a, σ => match evE a σ with | some (x, fl) => (truth x).map fun b => (ab (!b), fl) | none => none
  | .and l, σ => evAnd l σ
  | .or l, σ => evOr l σ
  | .ite t a b, σ => match evE t σ with
    | some (x, fl) => (match truth x with | some true => evE a ⟨σ.loc, fl⟩ | some false => evE b ⟨σ.loc, fl⟩ | none => none)
    | none => none
  | .idx a b, σ => match evE a σ with
    | some (x, fl) => (match evE b ⟨σ.loc, fl⟩ with | some (y, fl') => (idxV x y).map fun v => (v, fl') | none => none)
    | none => none
  | .sliceTo a b, σ => match evE a σ with
    | some (x, fl) => (match evE b ⟨σ.loc, fl⟩ with | some (.at (.int h), fl') => (sliceV x none (some h)).map fun v => (v, fl') | _ => none)
    | none => none
  | .sliceFrom a b, σ => match evE a σ with
    | some (x, fl) => (match evE b ⟨σ.loc, fl⟩ with | some (.at (.int h), fl') => (sliceV x (some h) none).map fun v => (v, fl') | _ => none)
    | none => none
  | .slice a b c, σ => match evE a σ with
    | some (x, fl) => (match evE b ⟨σ.loc, fl⟩ with
      | some (.at (.int l), fl') => (match evE c ⟨σ.loc, fl'⟩ with | some (.at (.int h), fl'') => (sliceV x (some l) (some h)).map fun v => (v, fl'') | _ => none)
      | _ => none)
    | none => none
  | .len a, σ => match evE a σ with | some (x, fl) => (lenV x).map fun v => (v, fl) | none => none
  | .ord a, σ => match evE a σ with
    | some (.at (.str s), fl) => if s.length = 1 then some (ai (s.cps.getD 0 0 : Nat), fl) else none
    | _ => none
  | .min a b, σ => match evE a σ with
    | some (.at (.int x), fl) => (match evE b ⟨σ.loc, fl⟩ with | some (.at (.int y), fl') => some (ai (if y < x then y else x), fl') | _ => none)
    | _ => none
  | .max a b, σ => match evE a σ with
    | some (.at (.int x), fl) => (match evE b ⟨σ.loc, fl⟩ with | some (.at (.int y), fl') => some (ai (if y > x then y else x), fl') | _ => none)
    | _ => none
  | .range l, σ => match evA l σ with
    | some ([.at (.int h)], fl) => if rgOk h then some (.rng 0 h 1, fl) else none
    | some ([.at (.int l), .at (.int h)], fl) => if rgOk l && rgOk h then some (.rng l h 1, fl) else none
    | some ([.at (.int l), .at (.int h), .at (.int st)], fl) => if rgOk l && rgOk h && decide (st = -1) then some (.rng l h (-1), fl) else none
    | _ => none
  | .endswith a b, σ => match evE a σ with
    | some (x, fl) => (match evE b ⟨σ.loc, fl⟩ with | some (y, fl') => (endsV x y).map fun v => (v, fl') | none => none)
    | none => none
  | .join a, σ => match evE a σ with | some (x, fl) => (joinV x).map fun v => (v, fl) | none => none
  | .list l, σ => match evA l σ with | some (vs, fl) => if small ((atomsOf vs).getD []).length then (atomsOf vs).map fun as => (.list as, fl) else none | none => none
  | .tup l, σ => match evA l σ with | some (vs, fl) => if small ((atomsOf vs).getD []).length then (atomsOf vs).map fun as => (.tup as, fl) else none | none => none
  | .dict l, σ => some (.dict l, σ.fl)
  | .callG f l, σ => match evA l σ with
    | some (vs, fl) => if !vs.all AV.isSt || hasOwn σ then none else Γ f vs fl
    | none => none
  | .callM i f l, σ => match σ.loc[i]? with
    | some (some (.at .me)) => (match evA l σ with
      | some (vs, fl) => if !vs.all AV.isSt || hasOwn σ then none else Γ f (.at .me :: vs) fl
      | none => none)
    | _ => none
  | .comp elt src caps, σ => if hasOwn σ then none else match evE src σ with
    | some (x, fl) => (match iterV x, capsOf caps σ with
      | some its, some cs => (evMap (fun a fl => evE elt ⟨some (.at a) :: cs.map some, fl⟩) its fl).map fun r => (.list r.1, r.2)
      | _, _ => none)
    | none => none
  | .compIf elt src cond caps, σ => if hasOwn σ then none else match evE src σ with
    | some (x, fl) => (match iterV x, capsOf caps σ with
      | some its, some cs => (evMapIf (fun a fl => evE elt ⟨some (.at a) :: cs.map some, fl⟩) (fun a fl => match evE cond ⟨some (.at a) :: cs.map some, fl⟩ with | some (v, fl') => (truth v).map fun b => (b, fl') | none => none) its fl).map fun r => (.list r.1, r.2)
      | _, _ => none)
    | none => none
def evA : CA → AS → Option (List AV × FL)
  | .nil, σ => some ([], σ.fl)
  | .cons e r, σ => match evE e σ with
    | some (v, fl) => (match evA r ⟨σ.loc, fl⟩ with | some (vs, fl') => some (v :: vs, fl') | none => none)
    | none => none
def evAnd : CA → AS → Option (AV × FL)
  | .nil, _ => none
  | .cons e .nil, σ => match evE e σ with | some (x, fl) => (truth x).map fun b => (ab b, fl) | none => none
  | .cons e r, σ => match evE e σ with
    | some (x, fl) => (match truth x with | some true => evAnd r ⟨σ.loc, fl⟩ | some false => some (ab false, fl) | none => none)
    | none => none
def evOr : CA → AS → Option (AV × FL)
  | .nil, _ => none
  | .cons e .nil, σ => match evE e σ with | some (x, fl) => (truth x).map fun b => (ab b, fl) | none => none
  | .cons e r, σ => match evE e σ with
    | some (x, fl) => (match truth x with | some false => evOr r ⟨σ.loc, fl⟩ | some true => some (ab true, fl) | none => none)
    | none => none
end
end
def labA : Nat → Addr
  | 0 => 419
  | 1 => 432
  | 2 => 445
  | _ => 458
def okSet (i : Nat) (σ : AS) : Bool := match σ.loc[i]? with
  | some (some (.own _)) => false
  | some _ => true
  | none => false
abbrev Step := AS → Option (AS × Out)
def whileN (t : AS → Option (Bool × FL)) (b : Step) : Nat → Step
  | 0, _ => none
  | n + 1, σ => match t σ with
    | some (true, fl) => (match b ⟨σ.loc, fl⟩ with
      | some (σ', .next) => whileN t b n σ'
      | some (σ', .cont) => whileN t b n σ'
      | some (σ', .brk) => some (σ', .next)
      | r => r)
    | some (false, fl) => some (⟨σ.loc, fl⟩, .next)
    | none => none
def forN (i : Nat) (b : Step) : List Atom → Step
  | [], σ => some (σ, .next)
  | a :: r, σ => if okSet i σ then (match b ⟨σ.loc.set i (some (.at a)), σ.fl⟩ with
    | some (σ', .next) => forN i b r σ'
    | some (σ', .cont) => forN i b r σ'
    | some (σ', .brk) => some (σ', .next)
    | _ => none) else none
def bindV (i : Nat) (v : AV) (σ : AS) (fl : FL) : AS := ⟨σ.loc.set i (some v), fl⟩
section
variable (T : Tabs) (Γ : Call) (N : Nat)
def evT (e : CE) (σ : AS) : Option (Bool × FL) := match evE T Γ e σ with
  | some (v, fl) => (truth v).map fun b => (b, fl)
  | none => none
mutual
def evS : CS → Step
  | .assign i e, σ => match evE T Γ e σ with
    | some (v, fl) => if !v.isSt || !okSet i σ then none else some (bindV i v σ fl, .next)
    | none => none
  | .assign2 i j e, σ => match evE T Γ e σ with
    | some (.tup [a, b], fl) => if okSet i σ && okSet j σ then some (bindV j (.at b) (bindV i (.at a) σ fl) fl, .next) else none
    | _ => none
  | .setf i e, σ => if selfIs σ then (match evE T Γ e σ with
    | some (.at a, fl) => if isPl a then some (⟨σ.loc, fl.set i (some a)⟩, .next) else none
    | _ => none) else none
  | .augf i o e, σ => if selfIs σ then (match σ.fl[i]? with
    | some (some a) => (match evE T Γ e σ with
      | some (v, fl) => (match augV o (.at a) v with
        | some (.at b) => if isPl b then some (⟨σ.loc, fl.set i (some b)⟩, .next) else none
        | _ => none)
      | none => none)
    | _ => none) else none
  | .aug i o e, σ => match σ.loc[i]? with
    | some (some a) => (match evE T Γ e σ with
      | some (v, fl) => (match augV o a v with
        | some (.at b) => some (bindV i (.at b) σ fl, .next)
        | _ => none)
      | none => none)
    | _ => none
  | .expr e, σ => match evE T Γ e σ with
    | some (_, fl) => some (⟨σ.loc, fl⟩, .next)
    | none => none
  | .append i e, σ => match evE T Γ e σ with
    | some (.at a, fl) => (match σ.loc[i]? with
      | some (some (.own l)) => if small l.length && !hasOwn ⟨σ.loc.set i none, fl⟩ then some (bindV i (.own (l ++ [a])) σ fl, .next) else none
      | _ => none)
    | _ => none
  | .newOwn i, σ => if hasOwn σ || !okSet i σ then none else some (bindV i (.own []) σ σ.fl, .next)
  | .ite t a b, σ => match evT T Γ t σ with
    | some (true, fl) => evB a ⟨σ.loc, fl⟩
    | some (false, fl) => evB b ⟨σ.loc, fl⟩
    | none => none
  | .while t b, σ => whileN (evT T Γ t) (fun σ => evB b σ) N σ
  | .for i e b, σ => match evE T Γ e σ with
    | some (v, fl) => (match iterV v with
      | some its => forN i (fun σ => evB b σ) its ⟨σ.loc, fl⟩
      | none => none)
    | none => none
  | .try k b, σ => match evB b σ with
    | some (σ', .exc k') => if labA k' = labA k then some (σ', .next) else some (σ', .exc k')
    | r => r
  | .raise k, σ => some (σ, .exc k)
  | .ret e, σ => match evE T Γ e σ with
    | some (v, fl) => if v.isOwn then none else some (⟨σ.loc, fl⟩, .ret v)
    | none => none
  | .pass, σ => some (σ, .next)
  | .brk, σ => some (σ, .brk)
  | .cont, σ => some (σ, .cont)
  | .assert e, σ => match evT T Γ e σ with
    | some (true, fl) => some (⟨σ.loc, fl⟩, .next)
    | _ => none
def evB : CB → Step
  | .nil, σ => some (σ, .next)
  | .cons s r, σ => match evS s σ with
    | some (σ', .next) => evB r σ'
    | x => x
end
end
structure Fn where
  np : Nat
  names : List Str
  body : CB
def retOf : Option (AS × Out) → Option (AV × FL)
  | some (σ, .ret v) => some (v, σ.fl)
  | some (σ, .next) => some (.at (.cst .none), σ.fl)
  | _ => none
def callN (T : Tabs) (fns : List Fn) (N : Nat) : Nat → Call
  | 0 => fun _ _ _ => none
  | n + 1 => fun f vs fl => match fns[f]? with
    | some F => if vs.length = F.np then retOf (evB T (callN T fns N n) N F.body ⟨vs.map some ++ List.replicate (F.names.length - F.np) none, fl⟩) else none
    | none => none
end Mine
namespace Mine
def c_init : CB := (.cons (.expr (.callM 0 1 (.cons (.str ⟨#[]⟩) .nil))) .nil)
def c_set_current : CB := (.cons (.setf 0 (.var 1)) (.cons (.setf 1 (.int 0)) (.cons (.setf 2 (.len (.fld 0))) (.cons (.setf 3 (.int 0)) (.cons (.setf 4 (.fld 1)) (.cons (.setf 5 (.fld 2)) .nil))))))
def c_get_current : CB := (.cons (.ret (.fld 0)) .nil)
def c_in_grouping : CB := (.cons (.ite (.cmp .ge (.fld 1) (.fld 2)) (.cons (.ret (.bool false)) .nil) .nil) (.cons (.ite (.cmp .notin (.idx (.fld 0) (.fld 1)) (.var 1)) (.cons (.ret (.bool false)) .nil) .nil) (.cons (.augf 1 .add (.int 1)) (.cons (.ret (.bool true)) .nil))))
def c_go_in_grouping : CB := (.cons (.while (.cmp .lt (.fld 1) (.fld 2)) (.cons (.ite (.cmp .notin (.idx (.fld 0) (.fld 1)) (.var 1)) (.cons (.ret (.bool true)) .nil) .nil) (.cons (.augf 1 .add (.int 1)) .nil))) (.cons (.ret (.bool false)) .nil))
def c_go_out_grouping : CB := (.cons (.while (.cmp .lt (.fld 1) (.fld 2)) (.cons (.ite (.cmp .isin (.idx (.fld 0) (.fld 1)) (.var 1)) (.cons (.ret (.bool true)) .nil) .nil) (.cons (.augf 1 .add (.int 1)) .nil))) (.cons (.ret (.bool false)) .nil))
def c_out_grouping_b : CB := (.cons (.ite (.cmp .le (.fld 1) (.fld 3)) (.cons (.ret (.bool false)) .nil) .nil) (.cons (.ite (.cmp .notin (.idx (.fld 0) (.bin .sub (.fld 1) (.int 1))) (.var 1)) (.cons (.augf 1 .sub (.int 1)) (.cons (.ret (.bool true)) .nil)) .nil) (.cons (.ret (.bool false)) .nil)))
def c_eq_s_b : CB := (.cons (.ite (.endswith (.slice (.fld 0) (.fld 3) (.fld 1)) (.var 1)) (.cons (.augf 1 .sub (.len (.var 1))) (.cons (.ret (.bool true)) .nil)) .nil) (.cons (.ret (.bool false)) .nil))
def c_find_among : CB := (.cons (.assign 2 (.int 0)) (.cons (.assign 3 (.len (.var 1))) (.cons (.assign 4 (.fld 1)) (.cons (.assign 5 (.fld 2)) (.cons (.assign 6 (.int 0)) (.cons (.assign 7 (.int 0)) (.cons (.assign 8 (.bool false)) (.cons (.while (.bool true) (.cons (.assign 9 (.bin .add (.var 2) (.bin .shr (.bin .sub (.var 3) (.var 2)) (.int 1)))) (.cons (.assign 10 (.int 0)) (.cons (.assign 11 (.min (.var 6) (.var 7))) (.cons (.assign 12 (.idx (.var 1) (.var 9))) (.cons (.for 13 (.range (.cons (.var 11) (.cons (.len (.amo (.var 12) (.ofString "s"))) .nil))) (.cons (.ite (.cmp .eq (.bin .add (.var 4) (.var 11)) (.var 5)) (.cons (.assign 10 (.neg 1)) (.cons .brk .nil)) .nil) (.cons (.assign 10 (.bin .sub (.ord (.idx (.fld 0) (.bin .add (.var 4) (.var 11)))) (.ord (.idx (.amo (.var 12) (.ofString "s")) (.var 13))))) (.cons (.ite (.cmp .ne (.var 10) (.int 0)) (.cons .brk .nil) .nil) (.cons (.aug 11 .add (.int 1)) .nil))))) (.cons (.ite (.cmp .lt (.var 10) (.int 0)) (.cons (.assign 3 (.var 9)) (.cons (.assign 7 (.var 11)) .nil)) (.cons (.assign 2 (.var 9)) (.cons (.assign 6 (.var 11)) .nil))) (.cons (.ite (.cmp .le (.bin .sub (.var 3) (.var 2)) (.int 1)) (.cons (.ite (.cmp .gt (.var 2) (.int 0)) (.cons .brk .nil) .nil) (.cons (.ite (.cmp .eq (.var 3) (.var 2)) (.cons .brk .nil) .nil) (.cons (.ite (.var 8) (.cons .brk .nil) .nil) (.cons (.assign 8 (.bool true)) .nil)))) .nil) .nil)))))))) (.cons (.while (.bool true) (.cons (.assign 12 (.idx (.var 1) (.var 2))) (.cons (.ite (.cmp .ge (.var 6) (.len (.amo (.var 12) (.ofString "s")))) (.cons (.setf 1 (.bin .add (.var 4) (.len (.amo (.var 12) (.ofString "s"))))) (.cons (.ret (.amo (.var 12) (.ofString "result"))) .nil)) .nil) (.cons (.assign 2 (.amo (.var 12) (.ofString "substring_i"))) (.cons (.ite (.cmp .lt (.var 2) (.int 0)) (.cons (.ret (.int 0)) .nil) .nil) .nil))))) (.cons (.ret (.neg 1)) .nil))))))))))
def c_find_among_b : CB := (.cons (.assign 2 (.int 0)) (.cons (.assign 3 (.len (.var 1))) (.cons (.assign 4 (.fld 1)) (.cons (.assign 5 (.fld 3)) (.cons (.assign 6 (.int 0)) (.cons (.assign 7 (.int 0)) (.cons (.assign 8 (.bool false)) (.cons (.while (.bool true) (.cons (.assign 9 (.bin .add (.var 2) (.bin .shr (.bin .sub (.var 3) (.var 2)) (.int 1)))) (.cons (.assign 10 (.int 0)) (.cons (.assign 11 (.min (.var 6) (.var 7))) (.cons (.assign 12 (.idx (.var 1) (.var 9))) (.cons (.for 13 (.range (.cons (.bin .sub (.bin .sub (.len (.amo (.var 12) (.ofString "s"))) (.int 1)) (.var 11)) (.cons (.neg 1) (.cons (.neg 1) .nil)))) (.cons (.ite (.cmp .eq (.bin .sub (.var 4) (.var 11)) (.var 5)) (.cons (.assign 10 (.neg 1)) (.cons .brk .nil)) .nil) (.cons (.assign 10 (.bin .sub (.ord (.idx (.fld 0) (.bin .sub (.bin .sub (.var 4) (.int 1)) (.var 11)))) (.ord (.idx (.amo (.var 12) (.ofString "s")) (.var 13))))) (.cons (.ite (.cmp .ne (.var 10) (.int 0)) (.cons .brk .nil) .nil) (.cons (.aug 11 .add (.int 1)) .nil))))) (.cons (.ite (.cmp .lt (.var 10) (.int 0)) (.cons (.assign 3 (.var 9)) (.cons (.assign 7 (.var 11)) .nil)) (.cons (.assign 2 (.var 9)) (.cons (.assign 6 (.var 11)) .nil))) (.cons (.ite (.cmp .le (.bin .sub (.var 3) (.var 2)) (.int 1)) (.cons (.ite (.cmp .gt (.var 2) (.int 0)) (.cons .brk .nil) .nil) (.cons (.ite (.cmp .eq (.var 3) (.var 2)) (.cons .brk .nil) .nil) (.cons (.ite (.var 8) (.cons .brk .nil) .nil) (.cons (.assign 8 (.bool true)) .nil)))) .nil) .nil)))))))) (.cons (.while (.bool true) (.cons (.assign 12 (.idx (.var 1) (.var 2))) (.cons (.ite (.cmp .ge (.var 6) (.len (.amo (.var 12) (.ofString "s")))) (.cons (.setf 1 (.bin .sub (.var 4) (.len (.amo (.var 12) (.ofString "s"))))) (.cons (.ret (.amo (.var 12) (.ofString "result"))) .nil)) .nil) (.cons (.assign 2 (.amo (.var 12) (.ofString "substring_i"))) (.cons (.ite (.cmp .lt (.var 2) (.int 0)) (.cons (.ret (.int 0)) .nil) .nil) .nil))))) (.cons (.ret (.neg 1)) .nil))))))))))
def c_replace_s : CB := (.cons (.assign 4 (.bin .sub (.len (.var 3)) (.bin .sub (.var 2) (.var 1)))) (.cons (.setf 0 (.bin .add (.bin .add (.slice (.fld 0) (.int 0) (.var 1)) (.var 3)) (.sliceFrom (.fld 0) (.var 2)))) (.cons (.augf 2 .add (.var 4)) (.cons (.ite (.cmp .ge (.fld 1) (.var 2)) (.cons (.augf 1 .add (.var 4)) .nil) (.cons (.ite (.cmp .gt (.fld 1) (.var 1)) (.cons (.setf 1 (.var 1)) .nil) .nil) .nil)) (.cons (.ret (.var 4)) .nil)))))
def c_slice_from : CB := (.cons (.assert (.cmp .ge (.fld 4) (.int 0))) (.cons (.assert (.cmp .le (.fld 4) (.fld 5))) (.cons (.assert (.cmp .le (.fld 5) (.fld 2))) (.cons (.assert (.cmp .le (.fld 2) (.len (.fld 0)))) (.cons (.expr (.callM 0 10 (.cons (.fld 4) (.cons (.fld 5) (.cons (.var 1) .nil))))) (.cons (.setf 5 (.bin .add (.fld 4) (.len (.var 1)))) .nil))))))
def c_slice_del : CB := (.cons (.ret (.callM 0 11 (.cons (.str ⟨#[]⟩) .nil))) .nil)
def c_stemWord : CB := (.cons (.expr (.callM 0 1 (.cons (.var 1) .nil))) (.cons (.expr (.callM 0 24 .nil)) (.cons (.ret (.callM 0 2 .nil)) .nil)))
def c_stemWords : CB := (.cons (.ret (.comp (.callM 1 13 (.cons (.var 0) .nil)) (.var 1) [0])) .nil)
def c_r_prelude : CB := (.cons (.assign 1 (.fld 1)) (.cons (.while (.bool true) (.cons (.assign 2 (.fld 1)) (.cons (.try 0 (.cons (.setf 4 (.fld 1)) (.cons (.assign 3 (.callM 0 8 (.cons (.cattr (.ofString "a_0")) .nil))) (.cons (.setf 5 (.fld 1)) (.cons (.ite (.cmp .eq (.var 3) (.int 1)) (.cons (.expr (.callM 0 11 (.cons (.str ⟨#[97]⟩) .nil))) .nil) (.cons (.ite (.cmp .eq (.var 3) (.int 2)) (.cons (.expr (.callM 0 11 (.cons (.str ⟨#[101]⟩) .nil))) .nil) (.cons (.ite (.cmp .eq (.var 3) (.int 3)) (.cons (.expr (.callM 0 11 (.cons (.str ⟨#[105]⟩) .nil))) .nil) (.cons (.ite (.cmp .eq (.var 3) (.int 4)) (.cons (.expr (.callM 0 11 (.cons (.str ⟨#[111]⟩) .nil))) .nil) (.cons (.ite (.cmp .eq (.var 3) (.int 5)) (.cons (.expr (.callM 0 11 (.cons (.str ⟨#[117]⟩) .nil))) .nil) (.cons (.ite (.cmp .ge (.fld 1) (.fld 2)) (.cons (.raise 0) .nil) .nil) (.cons (.augf 1 .add (.int 1)) .nil))) .nil)) .nil)) .nil)) .nil)) (.cons .cont .nil)))))) (.cons (.setf 1 (.var 2)) (.cons .brk .nil))))) (.cons (.setf 1 (.var 1)) (.cons (.assign 4 (.fld 1)) (.cons (.try 0 (.cons (.setf 4 (.fld 1)) (.cons (.ite (.or (.cons (.cmp .eq (.fld 1) (.fld 2)) (.cons (.cmp .ne (.idx (.fld 0) (.fld 1)) (.str ⟨#[121]⟩)) .nil))) (.cons (.setf 1 (.var 4)) (.cons (.raise 0) .nil)) .nil) (.cons (.augf 1 .add (.int 1)) (.cons (.setf 5 (.fld 1)) (.cons (.expr (.callM 0 11 (.cons (.str ⟨#[89]⟩) .nil))) .nil)))))) (.cons (.while (.bool true) (.cons (.assign 5 (.fld 1)) (.cons (.try 0 (.cons (.ite (.not (.callM 0 5 (.cons (.cattr (.ofString "g_v")) .nil))) (.cons (.raise 0) .nil) .nil) (.cons (.augf 1 .add (.int 1)) (.cons (.assign 6 (.fld 1)) (.cons (.try 1 (.cons (.setf 4 (.fld 1)) (.cons (.while (.bool true) (.cons (.assign 7 (.fld 1)) (.cons (.try 2 (.cons (.ite (.or (.cons (.cmp .eq (.fld 1) (.fld 2)) (.cons (.cmp .ne (.idx (.fld 0) (.fld 1)) (.str ⟨#[105]⟩)) .nil))) (.cons (.raise 2) .nil) .nil) (.cons (.augf 1 .add (.int 1)) (.cons (.setf 5 (.fld 1)) (.cons (.assign 8 (.fld 1)) (.cons (.try 3 (.cons (.ite (.not (.callM 0 3 (.cons (.cattr (.ofString "g_v")) .nil))) (.cons (.raise 3) .nil) .nil) (.cons (.expr (.callM 0 11 (.cons (.str ⟨#[73]⟩) .nil))) .nil))) (.cons (.setf 1 (.var 8)) (.cons .brk .nil)))))))) (.cons (.setf 1 (.var 7)) (.cons (.ite (.or (.cons (.cmp .eq (.fld 1) (.fld 2)) (.cons (.cmp .ne (.idx (.fld 0) (.fld 1)) (.str ⟨#[121]⟩)) .nil))) (.cons (.setf 1 (.var 6)) (.cons (.raise 1) .nil)) .nil) (.cons (.augf 1 .add (.int 1)) (.cons (.setf 5 (.fld 1)) (.cons (.expr (.callM 0 11 (.cons (.str ⟨#[89]⟩) .nil))) (.cons .brk .nil))))))))) .nil))) (.cons .cont .nil)))))) (.cons (.setf 1 (.var 5)) (.cons .brk .nil))))) (.cons (.ret (.bool true)) .nil)))))))
def c_r_mark_regions : CB := (.cons (.setf 6 (.fld 2)) (.cons (.setf 7 (.fld 2)) (.cons (.assign 1 (.fld 1)) (.cons (.ite (.cmp .gt (.bin .add (.fld 1) (.int 3)) (.fld 2)) (.cons (.ret (.bool false)) .nil) .nil) (.cons (.augf 1 .add (.int 3)) (.cons (.assign 2 (.fld 1)) (.cons (.setf 1 (.var 1)) (.cons (.ite (.not (.callM 0 5 (.cons (.cattr (.ofString "g_v")) .nil))) (.cons (.ret (.bool false)) .nil) .nil) (.cons (.augf 1 .add (.int 1)) (.cons (.ite (.not (.callM 0 4 (.cons (.cattr (.ofString "g_v")) .nil))) (.cons (.ret (.bool false)) .nil) .nil) (.cons (.augf 1 .add (.int 1)) (.cons (.setf 6 (.fld 1)) (.cons (.try 0 (.cons (.ite (.cmp .ge (.fld 6) (.var 2)) (.cons (.raise 0) .nil) .nil) (.cons (.setf 6 (.var 2)) .nil))) (.cons (.ite (.not (.callM 0 5 (.cons (.cattr (.ofString "g_v")) .nil))) (.cons (.ret (.bool false)) .nil) .nil) (.cons (.augf 1 .add (.int 1)) (.cons (.ite (.not (.callM 0 4 (.cons (.cattr (.ofString "g_v")) .nil))) (.cons (.ret (.bool false)) .nil) .nil) (.cons (.augf 1 .add (.int 1)) (.cons (.setf 7 (.fld 1)) (.cons (.ret (.bool true)) .nil)))))))))))))))))))
def c_r_postlude : CB := (.cons (.while (.bool true) (.cons (.assign 1 (.fld 1)) (.cons (.try 0 (.cons (.setf 4 (.fld 1)) (.cons (.assign 2 (.callM 0 8 (.cons (.cattr (.ofString "a_1")) .nil))) (.cons (.setf 5 (.fld 1)) (.cons (.ite (.cmp .eq (.var 2) (.int 1)) (.cons (.expr (.callM 0 11 (.cons (.str ⟨#[121]⟩) .nil))) .nil) (.cons (.ite (.cmp .eq (.var 2) (.int 2)) (.cons (.expr (.callM 0 11 (.cons (.str ⟨#[105]⟩) .nil))) .nil) (.cons (.ite (.cmp .ge (.fld 1) (.fld 2)) (.cons (.raise 0) .nil) .nil) (.cons (.augf 1 .add (.int 1)) .nil))) .nil)) (.cons .cont .nil)))))) (.cons (.setf 1 (.var 1)) (.cons .brk .nil))))) (.cons (.ret (.bool true)) .nil))
def c_r_R1 : CB := (.cons (.ret (.cmp .le (.fld 6) (.fld 1))) .nil)
def c_r_R2 : CB := (.cons (.ret (.cmp .le (.fld 7) (.fld 1))) .nil)
def c_r_undouble : CB := (.cons (.assign 1 (.bin .sub (.fld 2) (.fld 1))) (.cons (.ite (.cmp .eq (.callM 0 9 (.cons (.cattr (.ofString "a_2")) .nil)) (.int 0)) (.cons (.ret (.bool false)) .nil) .nil) (.cons (.setf 1 (.bin .sub (.fld 2) (.var 1))) (.cons (.setf 5 (.fld 1)) (.cons (.ite (.cmp .le (.fld 1) (.fld 3)) (.cons (.ret (.bool false)) .nil) .nil) (.cons (.augf 1 .sub (.int 1)) (.cons (.setf 4 (.fld 1)) (.cons (.expr (.callM 0 12 .nil)) (.cons (.ret (.bool true)) .nil)))))))))
def c_r_e_ending : CB := (.cons (.setf 8 (.bool false)) (.cons (.setf 5 (.fld 1)) (.cons (.ite (.or (.cons (.cmp .le (.fld 1) (.fld 3)) (.cons (.cmp .ne (.idx (.fld 0) (.bin .sub (.fld 1) (.int 1))) (.str ⟨#[101]⟩)) .nil))) (.cons (.ret (.bool false)) .nil) .nil) (.cons (.augf 1 .sub (.int 1)) (.cons (.setf 4 (.fld 1)) (.cons (.ite (.not (.callM 0 18 .nil)) (.cons (.ret (.bool false)) .nil) .nil) (.cons (.assign 1 (.bin .sub (.fld 2) (.fld 1))) (.cons (.ite (.not (.callM 0 6 (.cons (.cattr (.ofString "g_v")) .nil))) (.cons (.ret (.bool false)) .nil) .nil) (.cons (.setf 1 (.bin .sub (.fld 2) (.var 1))) (.cons (.expr (.callM 0 12 .nil)) (.cons (.setf 8 (.bool true)) (.cons (.ret (.callM 0 20 .nil)) .nil))))))))))))
def c_r_en_ending : CB := (.cons (.ite (.not (.callM 0 18 .nil)) (.cons (.ret (.bool false)) .nil) .nil) (.cons (.assign 1 (.bin .sub (.fld 2) (.fld 1))) (.cons (.ite (.not (.callM 0 6 (.cons (.cattr (.ofString "g_v")) .nil))) (.cons (.ret (.bool false)) .nil) .nil) (.cons (.setf 1 (.bin .sub (.fld 2) (.var 1))) (.cons (.try 0 (.cons (.ite (.not (.callM 0 7 (.cons (.str ⟨#[103, 101, 109]⟩) .nil))) (.cons (.raise 0) .nil) .nil) (.cons (.ret (.bool false)) .nil))) (.cons (.expr (.callM 0 12 .nil)) (.cons (.ret (.callM 0 20 .nil)) .nil)))))))
def c_r_standard_suffix : CB := (.cons (.assign 1 (.bin .sub (.fld 2) (.fld 1))) (.cons (.try 0 (.cons (.setf 5 (.fld 1)) (.cons (.assign 2 (.callM 0 9 (.cons (.cattr (.ofString "a_3")) .nil))) (.cons (.ite (.cmp .eq (.var 2) (.int 0)) (.cons (.raise 0) .nil) .nil) (.cons (.setf 4 (.fld 1)) (.cons (.ite (.cmp .eq (.var 2) (.int 1)) (.cons (.ite (.not (.callM 0 18 .nil)) (.cons (.raise 0) .nil) .nil) (.cons (.expr (.callM 0 11 (.cons (.str ⟨#[104, 101, 105, 100]⟩) .nil))) .nil)) (.cons (.ite (.cmp .eq (.var 2) (.int 2)) (.cons (.ite (.not (.callM 0 22 .nil)) (.cons (.raise 0) .nil) .nil) .nil) (.cons (.ite (.not (.callM 0 18 .nil)) (.cons (.raise 0) .nil) .nil) (.cons (.ite (.not (.callM 0 6 (.cons (.cattr (.ofString "g_v_j")) .nil))) (.cons (.raise 0) .nil) .nil) (.cons (.expr (.callM 0 12 .nil)) .nil)))) .nil)) .nil)))))) (.cons (.setf 1 (.bin .sub (.fld 2) (.var 1))) (.cons (.assign 3 (.bin .sub (.fld 2) (.fld 1))) (.cons (.expr (.callM 0 21 .nil)) (.cons (.setf 1 (.bin .sub (.fld 2) (.var 3))) (.cons (.assign 4 (.bin .sub (.fld 2) (.fld 1))) (.cons (.try 0 (.cons (.setf 5 (.fld 1)) (.cons (.ite (.not (.callM 0 7 (.cons (.str ⟨#[104, 101, 105, 100]⟩) .nil))) (.cons (.raise 0) .nil) .nil) (.cons (.setf 4 (.fld 1)) (.cons (.ite (.not (.callM 0 19 .nil)) (.cons (.raise 0) .nil) .nil) (.cons (.try 1 (.cons (.ite (.or (.cons (.cmp .le (.fld 1) (.fld 3)) (.cons (.cmp .ne (.idx (.fld 0) (.bin .sub (.fld 1) (.int 1))) (.str ⟨#[99]⟩)) .nil))) (.cons (.raise 1) .nil) .nil) (.cons (.augf 1 .sub (.int 1)) (.cons (.raise 0) .nil)))) (.cons (.expr (.callM 0 12 .nil)) (.cons (.setf 5 (.fld 1)) (.cons (.ite (.not (.callM 0 7 (.cons (.str ⟨#[101, 110]⟩) .nil))) (.cons (.raise 0) .nil) .nil) (.cons (.setf 4 (.fld 1)) (.cons (.ite (.not (.callM 0 22 .nil)) (.cons (.raise 0) .nil) .nil) .nil))))))))))) (.cons (.setf 1 (.bin .sub (.fld 2) (.var 4))) (.cons (.assign 5 (.bin .sub (.fld 2) (.fld 1))) (.cons (.try 0 (.cons (.setf 5 (.fld 1)) (.cons (.assign 2 (.callM 0 9 (.cons (.cattr (.ofString "a_4")) .nil))) (.cons (.ite (.cmp .eq (.var 2) (.int 0)) (.cons (.raise 0) .nil) .nil) (.cons (.setf 4 (.fld 1)) (.cons (.ite (.cmp .eq (.var 2) (.int 1)) (.cons (.ite (.not (.callM 0 19 .nil)) (.cons (.raise 0) .nil) .nil) (.cons (.expr (.callM 0 12 .nil)) (.cons (.while (.bool true) (.cons (.assign 6 (.bin .sub (.fld 2) (.fld 1))) (.cons (.try 1 (.cons (.setf 5 (.fld 1)) (.cons (.ite (.not (.callM 0 7 (.cons (.str ⟨#[105, 103]⟩) .nil))) (.cons (.raise 1) .nil) .nil) (.cons (.setf 4 (.fld 1)) (.cons (.ite (.not (.callM 0 19 .nil)) (.cons (.raise 1) .nil) .nil) (.cons (.try 2 (.cons (.ite (.or (.cons (.cmp .le (.fld 1) (.fld 3)) (.cons (.cmp .ne (.idx (.fld 0) (.bin .sub (.fld 1) (.int 1))) (.str ⟨#[101]⟩)) .nil))) (.cons (.raise 2) .nil) .nil) (.cons (.augf 1 .sub (.int 1)) (.cons (.raise 1) .nil)))) (.cons (.expr (.callM 0 12 .nil)) (.cons .brk .nil)))))))) (.cons (.setf 1 (.bin .sub (.fld 2) (.var 6))) (.cons (.ite (.not (.callM 0 20 .nil)) (.cons (.raise 0) .nil) .nil) (.cons .brk .nil)))))) .nil))) (.cons (.ite (.cmp .eq (.var 2) (.int 2)) (.cons (.ite (.not (.callM 0 19 .nil)) (.cons (.raise 0) .nil) .nil) (.cons (.try 1 (.cons (.ite (.or (.cons (.cmp .le (.fld 1) (.fld 3)) (.cons (.cmp .ne (.idx (.fld 0) (.bin .sub (.fld 1) (.int 1))) (.str ⟨#[101]⟩)) .nil))) (.cons (.raise 1) .nil) .nil) (.cons (.augf 1 .sub (.int 1)) (.cons (.raise 0) .nil)))) (.cons (.expr (.callM 0 12 .nil)) .nil))) (.cons (.ite (.cmp .eq (.var 2) (.int 3)) (.cons (.ite (.not (.callM 0 19 .nil)) (.cons (.raise 0) .nil) .nil) (.cons (.expr (.callM 0 12 .nil)) (.cons (.ite (.not (.callM 0 21 .nil)) (.cons (.raise 0) .nil) .nil) .nil))) (.cons (.ite (.cmp .eq (.var 2) (.int 4)) (.cons (.ite (.not (.callM 0 19 .nil)) (.cons (.raise 0) .nil) .nil) (.cons (.expr (.callM 0 12 .nil)) .nil)) (.cons (.ite (.not (.callM 0 19 .nil)) (.cons (.raise 0) .nil) .nil) (.cons (.ite (.not (.fld 8)) (.cons (.raise 0) .nil) .nil) (.cons (.expr (.callM 0 12 .nil)) .nil)))) .nil)) .nil)) .nil)) .nil)))))) (.cons (.setf 1 (.bin .sub (.fld 2) (.var 5))) (.cons (.assign 7 (.bin .sub (.fld 2) (.fld 1))) (.cons (.try 0 (.cons (.ite (.not (.callM 0 6 (.cons (.cattr (.ofString "g_v_I")) .nil))) (.cons (.raise 0) .nil) .nil) (.cons (.assign 8 (.bin .sub (.fld 2) (.fld 1))) (.cons (.ite (.cmp .eq (.callM 0 9 (.cons (.cattr (.ofString "a_5")) .nil)) (.int 0)) (.cons (.raise 0) .nil) .nil) (.cons (.ite (.not (.callM 0 6 (.cons (.cattr (.ofString "g_v")) .nil))) (.cons (.raise 0) .nil) .nil) (.cons (.setf 1 (.bin .sub (.fld 2) (.var 8))) (.cons (.setf 5 (.fld 1)) (.cons (.ite (.cmp .le (.fld 1) (.fld 3)) (.cons (.raise 0) .nil) .nil) (.cons (.augf 1 .sub (.int 1)) (.cons (.setf 4 (.fld 1)) (.cons (.expr (.callM 0 12 .nil)) .nil))))))))))) (.cons (.setf 1 (.bin .sub (.fld 2) (.var 7))) (.cons (.ret (.bool true)) .nil))))))))))))))))
def c_stem : CB := (.cons (.assign 1 (.fld 1)) (.cons (.expr (.callM 0 15 .nil)) (.cons (.setf 1 (.var 1)) (.cons (.assign 2 (.fld 1)) (.cons (.expr (.callM 0 16 .nil)) (.cons (.setf 1 (.var 2)) (.cons (.setf 3 (.fld 1)) (.cons (.setf 1 (.fld 2)) (.cons (.expr (.callM 0 23 .nil)) (.cons (.setf 1 (.fld 3)) (.cons (.assign 3 (.fld 1)) (.cons (.expr (.callM 0 17 .nil)) (.cons (.setf 1 (.var 3)) (.cons (.ret (.bool true)) .nil))))))))))))))
def c_law_pieces : CB := (.cons (.ret (.list (.cons (.str ⟨#[101, 110]⟩) (.cons (.str ⟨#[101, 110, 101]⟩) (.cons (.str ⟨#[104, 101, 100, 101, 110]⟩) (.cons (.str ⟨#[115, 101]⟩) (.cons (.str ⟨#[104, 101, 105, 100]⟩) (.cons (.str ⟨#[101, 110, 104, 101, 105, 100]⟩) (.cons (.str ⟨#[99, 104, 101, 105, 100]⟩) (.cons (.str ⟨#[103, 101, 109]⟩) (.cons (.str ⟨#[103, 101, 109, 101, 110]⟩) (.cons (.str ⟨#[101, 110, 100]⟩) (.cons (.str ⟨#[105, 110, 103]⟩) (.cons (.str ⟨#[105, 103]⟩) (.cons (.str ⟨#[101, 105, 103]⟩) (.cons (.str ⟨#[105, 103, 101, 110, 100]⟩) (.cons (.str ⟨#[101, 105, 103, 105, 110, 103]⟩) (.cons (.str ⟨#[108, 105, 106, 107]⟩) (.cons (.str ⟨#[101, 108, 105, 106, 107]⟩) (.cons (.str ⟨#[108, 105, 106, 107, 101]⟩) (.cons (.str ⟨#[98, 97, 97, 114]⟩) (.cons (.str ⟨#[98, 97, 114]⟩) (.cons (.str ⟨#[98, 97, 114, 101]⟩) (.cons (.str ⟨#[100, 100]⟩) (.cons (.str ⟨#[107, 107]⟩) (.cons (.str ⟨#[116, 116]⟩) (.cons (.str ⟨#[100, 100, 101, 110]⟩) (.cons (.str ⟨#[107, 107, 105, 110, 103]⟩) (.cons (.str ⟨#[116, 116, 101]⟩) (.cons (.str ⟨#[97, 97]⟩) (.cons (.str ⟨#[101, 101]⟩) (.cons (.str ⟨#[111, 111]⟩) (.cons (.str ⟨#[117, 117]⟩) (.cons (.str ⟨#[97, 97, 110]⟩) (.cons (.str ⟨#[101, 101, 114]⟩) (.cons (.str ⟨#[111, 111, 112]⟩) (.cons (.str ⟨#[117, 117, 114]⟩) (.cons (.str ⟨#[97, 97, 105, 101]⟩) (.cons (.str ⟨#[97, 97, 121, 101]⟩) (.cons (.str ⟨#[105, 106, 115]⟩) (.cons (.str ⟨#[118, 101, 114]⟩) (.cons (.str ⟨#[111, 110, 116]⟩) (.cons (.str ⟨#[98, 101]⟩) (.cons (.str ⟨#[119, 101, 114, 107]⟩) (.cons (.str ⟨#[108, 111, 111, 112]⟩) (.cons (.str ⟨#[107, 105, 110, 100]⟩) (.cons (.str ⟨#[103, 101]⟩) (.cons (.str ⟨#[776]⟩) .nil)))))))))))))))))))))))))))))))))))))))))))))))) .nil)
def c_law_bare : CB := (.cons (.ret (.dict [(⟨#[225]⟩, ⟨#[97]⟩), (⟨#[228]⟩, ⟨#[97]⟩), (⟨#[233]⟩, ⟨#[101]⟩), (⟨#[235]⟩, ⟨#[101]⟩), (⟨#[237]⟩, ⟨#[105]⟩), (⟨#[239]⟩, ⟨#[105]⟩), (⟨#[243]⟩, ⟨#[111]⟩), (⟨#[246]⟩, ⟨#[111]⟩), (⟨#[250]⟩, ⟨#[117]⟩), (⟨#[252]⟩, ⟨#[117]⟩)])) .nil)
def c_law_word : CB := (.cons (.assign 2 (.str ⟨#[]⟩)) (.cons (.for 3 (.var 0) (.cons (.assign 4 (.bin .mod (.var 3) (.int 90))) (.cons (.assign 5 (.ite (.cmp .lt (.var 4) (.int 44)) (.idx (.glob (.ofString "_law_signs")) (.var 4)) (.idx (.callG 25 .nil) (.bin .sub (.var 4) (.int 44))))) (.cons (.ite (.cmp .le (.bin .add (.len (.var 2)) (.len (.var 5))) (.var 1)) (.cons (.assign 2 (.bin .add (.var 2) (.var 5))) .nil) .nil) .nil)))) (.cons (.ret (.var 2)) .nil)))
def c_law_marked : CB := (.cons (.assign 1 (.comp (.ite (.cmp .isin (.var 0) (.callG 26 .nil)) (.idx (.callG 26 .nil) (.var 0)) (.var 0)) (.var 0) [])) (.cons (.newOwn 2) (.cons (.for 3 (.range (.cons (.len (.var 1)) .nil)) (.cons (.assign 4 (.idx (.var 1) (.var 3))) (.cons (.assign 5 (.and (.cons (.cmp .gt (.var 3) (.int 0)) (.cons (.cmp .isin (.idx (.var 2) (.bin .sub (.var 3) (.int 1))) (.glob (.ofString "_law_vowels"))) .nil)))) (.cons (.assign 6 (.and (.cons (.cmp .lt (.bin .add (.var 3) (.int 1)) (.len (.var 1))) (.cons (.cmp .isin (.idx (.var 1) (.bin .add (.var 3) (.int 1))) (.glob (.ofString "_law_vowels"))) .nil)))) (.cons (.ite (.and (.cons (.cmp .eq (.var 4) (.str ⟨#[121]⟩)) (.cons (.or (.cons (.cmp .eq (.var 3) (.int 0)) (.cons (.var 5) .nil))) .nil))) (.cons (.append 2 (.str ⟨#[89]⟩)) .nil) (.cons (.ite (.and (.cons (.cmp .eq (.var 4) (.str ⟨#[105]⟩)) (.cons (.var 5) (.cons (.var 6) .nil)))) (.cons (.append 2 (.str ⟨#[73]⟩)) .nil) (.cons (.append 2 (.var 4)) .nil)) .nil)) .nil))))) (.cons (.ret (.join (.var 2))) .nil))))
def c_law_regions : CB := (.cons (.assign 1 (.compIf (.bin .add (.var 0) (.int 1)) (.range (.cons (.int 1) (.cons (.len (.var 0)) .nil))) (.and (.cons (.cmp .isin (.idx (.var 1) (.bin .sub (.var 0) (.int 1))) (.glob (.ofString "_law_vowels"))) (.cons (.cmp .notin (.idx (.var 1) (.var 0)) (.glob (.ofString "_law_vowels"))) .nil))) [0])) (.cons (.assign 2 (.ite (.cmp .gt (.len (.var 1)) (.int 0)) (.max (.int 3) (.idx (.var 1) (.int 0))) (.len (.var 0)))) (.cons (.assign 3 (.ite (.cmp .gt (.len (.var 1)) (.int 1)) (.idx (.var 1) (.int 1)) (.len (.var 0)))) (.cons (.ret (.tup (.cons (.var 2) (.cons (.var 3) .nil)))) .nil))))
def c_law_ending : CB := (.cons (.assign 2 (.str ⟨#[]⟩)) (.cons (.for 3 (.var 1) (.cons (.ite (.and (.cons (.endswith (.var 0) (.var 3)) (.cons (.cmp .gt (.len (.var 3)) (.len (.var 2))) .nil))) (.cons (.assign 2 (.var 3)) .nil) .nil) .nil)) (.cons (.ret (.var 2)) .nil)))
def c_law_shut : CB := (.cons (.ret (.cmp .notin (.idx (.var 0) (.bin .sub (.len (.var 0)) (.int 1))) (.var 1))) .nil)
def c_law_single : CB := (.cons (.ret (.ite (.cmp .eq (.callG 30 (.cons (.var 0) (.cons (.list (.cons (.str ⟨#[100, 100]⟩) (.cons (.str ⟨#[107, 107]⟩) (.cons (.str ⟨#[116, 116]⟩) .nil)))) .nil))) (.str ⟨#[]⟩)) (.var 0) (.sliceTo (.var 0) (.bin .sub (.len (.var 0)) (.int 1))))) .nil)
def c_law_less_en : CB := (.cons (.assign 3 (.sliceTo (.var 0) (.bin .sub (.len (.var 0)) (.len (.var 1))))) (.cons (.ite (.and (.cons (.cmp .ge (.len (.var 3)) (.var 2)) (.cons (.callG 31 (.cons (.var 3) (.cons (.glob (.ofString "_law_vowels")) .nil))) (.cons (.not (.endswith (.var 3) (.str ⟨#[103, 101, 109]⟩))) .nil)))) (.cons (.ret (.callG 32 (.cons (.var 3) .nil))) .nil) .nil) (.cons (.ret (.var 0)) .nil)))
def c_law_less_e : CB := (.cons (.ite (.endswith (.var 0) (.str ⟨#[101]⟩)) (.cons (.assign 2 (.sliceTo (.var 0) (.bin .sub (.len (.var 0)) (.int 1)))) (.cons (.ite (.and (.cons (.cmp .ge (.len (.var 2)) (.var 1)) (.cons (.callG 31 (.cons (.var 2) (.cons (.glob (.ofString "_law_vowels")) .nil))) .nil))) (.cons (.ret (.callG 32 (.cons (.var 2) .nil))) .nil) .nil) .nil)) .nil) (.cons (.ret (.var 0)) .nil))
def c_law_stem : CB := (.cons (.assign 0 (.callG 28 (.cons (.var 0) .nil))) (.cons (.assign2 1 2 (.callG 29 (.cons (.var 0) .nil))) (.cons (.assign 3 (.callG 30 (.cons (.var 0) (.cons (.list (.cons (.str ⟨#[104, 101, 100, 101, 110]⟩) (.cons (.str ⟨#[101, 110, 101]⟩) (.cons (.str ⟨#[101, 110]⟩) (.cons (.str ⟨#[115, 101]⟩) (.cons (.str ⟨#[115]⟩) .nil)))))) .nil)))) (.cons (.assign 4 (.sliceTo (.var 0) (.bin .sub (.len (.var 0)) (.len (.var 3))))) (.cons (.ite (.cmp .isin (.var 3) (.list (.cons (.str ⟨#[101, 110, 101]⟩) (.cons (.str ⟨#[101, 110]⟩) .nil)))) (.cons (.assign 0 (.callG 33 (.cons (.var 0) (.cons (.var 3) (.cons (.var 1) .nil))))) .nil) (.cons (.ite (.and (.cons (.cmp .eq (.var 3) (.str ⟨#[104, 101, 100, 101, 110]⟩)) (.cons (.cmp .ge (.len (.var 4)) (.var 1)) .nil))) (.cons (.assign 0 (.bin .add (.var 4) (.str ⟨#[104, 101, 105, 100]⟩))) .nil) (.cons (.ite (.and (.cons (.cmp .isin (.var 3) (.list (.cons (.str ⟨#[115, 101]⟩) (.cons (.str ⟨#[115]⟩) .nil)))) (.cons (.cmp .ge (.len (.var 4)) (.var 1)) (.cons (.callG 31 (.cons (.var 4) (.cons (.bin .add (.glob (.ofString "_law_vowels")) (.list (.cons (.str ⟨#[106]⟩) .nil))) .nil))) .nil)))) (.cons (.assign 0 (.var 4)) .nil) .nil) .nil)) .nil)) (.cons (.assign 4 (.callG 34 (.cons (.var 0) (.cons (.var 1) .nil)))) (.cons (.assign 5 (.cmp .ne (.var 4) (.var 0))) (.cons (.assign 0 (.var 4)) (.cons (.ite (.endswith (.var 0) (.str ⟨#[104, 101, 105, 100]⟩)) (.cons (.assign 4 (.sliceTo (.var 0) (.bin .sub (.len (.var 0)) (.int 4)))) (.cons (.ite (.and (.cons (.cmp .ge (.len (.var 4)) (.var 2)) (.cons (.not (.endswith (.var 4) (.str ⟨#[99]⟩))) .nil))) (.cons (.assign 0 (.ite (.endswith (.var 4) (.str ⟨#[101, 110]⟩)) (.callG 33 (.cons (.var 4) (.cons (.str ⟨#[101, 110]⟩) (.cons (.var 1) .nil)))) (.var 4))) .nil) .nil) .nil)) .nil) (.cons (.assign 3 (.callG 30 (.cons (.var 0) (.cons (.list (.cons (.str ⟨#[101, 110, 100]⟩) (.cons (.str ⟨#[105, 110, 103]⟩) (.cons (.str ⟨#[105, 103]⟩) (.cons (.str ⟨#[108, 105, 106, 107]⟩) (.cons (.str ⟨#[98, 97, 97, 114]⟩) (.cons (.str ⟨#[98, 97, 114]⟩) .nil))))))) .nil)))) (.cons (.assign 4 (.sliceTo (.var 0) (.bin .sub (.len (.var 0)) (.len (.var 3))))) (.cons (.ite (.and (.cons (.cmp .ne (.var 3) (.str ⟨#[]⟩)) (.cons (.cmp .ge (.len (.var 4)) (.var 2)) .nil))) (.cons (.ite (.cmp .isin (.var 3) (.list (.cons (.str ⟨#[101, 110, 100]⟩) (.cons (.str ⟨#[105, 110, 103]⟩) .nil)))) (.cons (.assign 6 (.sliceTo (.var 4) (.bin .sub (.len (.var 4)) (.int 2)))) (.cons (.ite (.and (.cons (.endswith (.var 4) (.str ⟨#[105, 103]⟩)) (.cons (.cmp .ge (.len (.var 6)) (.var 2)) (.cons (.not (.endswith (.var 6) (.str ⟨#[101]⟩))) .nil)))) (.cons (.assign 0 (.var 6)) .nil) (.cons (.assign 0 (.callG 32 (.cons (.var 4) .nil))) .nil)) .nil)) (.cons (.ite (.cmp .eq (.var 3) (.str ⟨#[105, 103]⟩)) (.cons (.assign 0 (.ite (.endswith (.var 4) (.str ⟨#[101]⟩)) (.var 0) (.var 4))) .nil) (.cons (.ite (.cmp .eq (.var 3) (.str ⟨#[108, 105, 106, 107]⟩)) (.cons (.assign 0 (.callG 34 (.cons (.var 4) (.cons (.var 1) .nil)))) .nil) (.cons (.ite (.or (.cons (.cmp .eq (.var 3) (.str ⟨#[98, 97, 97, 114]⟩)) (.cons (.var 5) .nil))) (.cons (.assign 0 (.var 4)) .nil) .nil) .nil)) .nil)) .nil)) .nil) .nil) (.cons (.assign 7 (.len (.var 0))) (.cons (.ite (.and (.cons (.cmp .ge (.var 7) (.int 4)) (.cons (.cmp .isin (.slice (.var 0) (.bin .sub (.var 7) (.int 3)) (.bin .sub (.var 7) (.int 1))) (.list (.cons (.str ⟨#[97, 97]⟩) (.cons (.str ⟨#[101, 101]⟩) (.cons (.str ⟨#[111, 111]⟩) (.cons (.str ⟨#[117, 117]⟩) .nil)))))) .nil))) (.cons (.ite (.and (.cons (.cmp .notin (.idx (.var 0) (.bin .sub (.var 7) (.int 4))) (.glob (.ofString "_law_vowels"))) (.cons (.cmp .notin (.idx (.var 0) (.bin .sub (.var 7) (.int 1))) (.bin .add (.glob (.ofString "_law_vowels")) (.list (.cons (.str ⟨#[73]⟩) .nil)))) .nil))) (.cons (.assign 0 (.bin .add (.sliceTo (.var 0) (.bin .sub (.var 7) (.int 2))) (.idx (.var 0) (.bin .sub (.var 7) (.int 1))))) .nil) .nil) .nil) .nil) (.cons (.ret (.join (.comp (.ite (.cmp .eq (.var 0) (.str ⟨#[73]⟩)) (.str ⟨#[105]⟩) (.ite (.cmp .eq (.var 0) (.str ⟨#[89]⟩)) (.str ⟨#[121]⟩) (.var 0))) (.var 0) []))) .nil)))))))))))))))
def fns : List Fn := [⟨1, [(.ofString "self")], c_init⟩,
  ⟨2, [(.ofString "self"), (.ofString "value")], c_set_current⟩,
  ⟨1, [(.ofString "self")], c_get_current⟩,
  ⟨2, [(.ofString "self"), (.ofString "s")], c_in_grouping⟩,
  ⟨2, [(.ofString "self"), (.ofString "s")], c_go_in_grouping⟩,
  ⟨2, [(.ofString "self"), (.ofString "s")], c_go_out_grouping⟩,
  ⟨2, [(.ofString "self"), (.ofString "s")], c_out_grouping_b⟩,
  ⟨2, [(.ofString "self"), (.ofString "s")], c_eq_s_b⟩,
  ⟨2, [(.ofString "self"), (.ofString "v"), (.ofString "i"), (.ofString "j"), (.ofString "c"), (.ofString "l"), (.ofString "common_i"), (.ofString "common_j"), (.ofString "first_key_inspected"), (.ofString "k"), (.ofString "diff"), (.ofString "common"), (.ofString "w"), (.ofString "i2")], c_find_among⟩,
  ⟨2, [(.ofString "self"), (.ofString "v"), (.ofString "i"), (.ofString "j"), (.ofString "c"), (.ofString "lb"), (.ofString "common_i"), (.ofString "common_j"), (.ofString "first_key_inspected"), (.ofString "k"), (.ofString "diff"), (.ofString "common"), (.ofString "w"), (.ofString "i2")], c_find_among_b⟩,
  ⟨4, [(.ofString "self"), (.ofString "c_bra"), (.ofString "c_ket"), (.ofString "s"), (.ofString "adjustment")], c_replace_s⟩,
  ⟨2, [(.ofString "self"), (.ofString "s")], c_slice_from⟩,
  ⟨1, [(.ofString "self")], c_slice_del⟩,
  ⟨2, [(.ofString "self"), (.ofString "word")], c_stemWord⟩,
  ⟨2, [(.ofString "self"), (.ofString "words")], c_stemWords⟩,
  ⟨1, [(.ofString "self"), (.ofString "v_1"), (.ofString "v_2"), (.ofString "among_var"), (.ofString "v_3"), (.ofString "v_4"), (.ofString "v_5"), (.ofString "v_6"), (.ofString "v_7")], c_r_prelude⟩,
  ⟨1, [(.ofString "self"), (.ofString "v_1"), (.ofString "I_x")], c_r_mark_regions⟩,
  ⟨1, [(.ofString "self"), (.ofString "v_1"), (.ofString "among_var")], c_r_postlude⟩,
  ⟨1, [(.ofString "self")], c_r_R1⟩,
  ⟨1, [(.ofString "self")], c_r_R2⟩,
  ⟨1, [(.ofString "self"), (.ofString "v_1")], c_r_undouble⟩,
  ⟨1, [(.ofString "self"), (.ofString "v_1")], c_r_e_ending⟩,
  ⟨1, [(.ofString "self"), (.ofString "v_1")], c_r_en_ending⟩,
  ⟨1, [(.ofString "self"), (.ofString "v_1"), (.ofString "among_var"), (.ofString "v_2"), (.ofString "v_3"), (.ofString "v_4"), (.ofString "v_5"), (.ofString "v_6"), (.ofString "v_7")], c_r_standard_suffix⟩,
  ⟨1, [(.ofString "self"), (.ofString "v_1"), (.ofString "v_2"), (.ofString "v_3")], c_stem⟩,
  ⟨0, [], c_law_pieces⟩,
  ⟨0, [], c_law_bare⟩,
  ⟨2, [(.ofString "numbers"), (.ofString "most"), (.ofString "word"), (.ofString "number"), (.ofString "k"), (.ofString "piece")], c_law_word⟩,
  ⟨1, [(.ofString "word"), (.ofString "bare"), (.ofString "marked"), (.ofString "place"), (.ofString "sign"), (.ofString "behind"), (.ofString "before")], c_law_marked⟩,
  ⟨1, [(.ofString "word"), (.ofString "borders"), (.ofString "first"), (.ofString "second")], c_law_regions⟩,
  ⟨2, [(.ofString "word"), (.ofString "ends"), (.ofString "found"), (.ofString "end")], c_law_ending⟩,
  ⟨2, [(.ofString "stem"), (.ofString "signs")], c_law_shut⟩,
  ⟨1, [(.ofString "stem")], c_law_single⟩,
  ⟨3, [(.ofString "word"), (.ofString "end"), (.ofString "first"), (.ofString "stem")], c_law_less_en⟩,
  ⟨2, [(.ofString "word"), (.ofString "first"), (.ofString "stem")], c_law_less_e⟩,
  ⟨1, [(.ofString "word"), (.ofString "first"), (.ofString "second"), (.ofString "end"), (.ofString "stem"), (.ofString "shorter"), (.ofString "root"), (.ofString "size")], c_law_stem⟩]
abbrev i_init : Nat := 0
abbrev i_set_current : Nat := 1
abbrev i_get_current : Nat := 2
abbrev i_in_grouping : Nat := 3
abbrev i_go_in_grouping : Nat := 4
abbrev i_go_out_grouping : Nat := 5
abbrev i_out_grouping_b : Nat := 6
abbrev i_eq_s_b : Nat := 7
abbrev i_find_among : Nat := 8
abbrev i_find_among_b : Nat := 9
abbrev i_replace_s : Nat := 10
abbrev i_slice_from : Nat := 11
abbrev i_slice_del : Nat := 12
abbrev i_stemWord : Nat := 13
abbrev i_stemWords : Nat := 14
abbrev i_r_prelude : Nat := 15
abbrev i_r_mark_regions : Nat := 16
abbrev i_r_postlude : Nat := 17
abbrev i_r_R1 : Nat := 18
abbrev i_r_R2 : Nat := 19
abbrev i_r_undouble : Nat := 20
abbrev i_r_e_ending : Nat := 21
abbrev i_r_en_ending : Nat := 22
abbrev i_r_standard_suffix : Nat := 23
abbrev i_stem : Nat := 24
abbrev i_law_pieces : Nat := 25
abbrev i_law_bare : Nat := 26
abbrev i_law_word : Nat := 27
abbrev i_law_marked : Nat := 28
abbrev i_law_regions : Nat := 29
abbrev i_law_ending : Nat := 30
abbrev i_law_shut : Nat := 31
abbrev i_law_single : Nat := 32
abbrev i_law_less_en : Nat := 33
abbrev i_law_less_e : Nat := 34
abbrev i_law_stem : Nat := 35
def c_law1 : CB := (.cons (.assign 1 (.callG 27 (.cons (.sliceTo (.var 0) (.int 7)) (.cons (.int 24) .nil)))) (.cons (.assign 2 (.callG 27 (.cons (.slice (.var 0) (.int 7) (.int 11)) (.cons (.int 16) .nil)))) (.cons (.assign 3 (.callG 27 (.cons (.slice (.var 0) (.int 11) (.int 12)) (.cons (.int 16) .nil)))) .nil)))
def c_law2 : CB := (.cons (.ite (.cmp .ne (.callM 4 13 (.cons (.var 1) .nil)) (.callG 35 (.cons (.var 1) .nil))) (.cons (.ret (.bool false)) .nil) .nil) (.cons (.ret (.cmp .eq (.callM 4 14 (.cons (.list (.cons (.var 2) (.cons (.var 3) .nil))) .nil)) (.list (.cons (.callG 35 (.cons (.var 2) .nil)) (.cons (.callG 35 (.cons (.var 3) .nil)) .nil))))) .nil))
def signsS : Str := ⟨#[101, 110, 97, 116, 105, 114, 100, 111, 115, 108, 103, 118, 104, 107, 109, 117, 98, 112, 119, 106, 122, 99, 102, 120, 121, 113, 232, 225, 228, 233, 235, 237, 239, 243, 246, 250, 252, 73, 89, 65, 201, 234, 39, 45]⟩
def vowelsL : List Atom := [Atom.str ⟨#[97]⟩, Atom.str ⟨#[101]⟩, Atom.str ⟨#[105]⟩, Atom.str ⟨#[111]⟩, Atom.str ⟨#[117]⟩, Atom.str ⟨#[121]⟩, Atom.str ⟨#[232]⟩]
def amoRows : List (Nat × Str × Int × Int) := [(304, ⟨#[]⟩, -1, 6), (307, ⟨#[225]⟩, 0, 1), (310, ⟨#[228]⟩, 0, 1), (313, ⟨#[233]⟩, 0, 2), (316, ⟨#[235]⟩, 0, 2), (319, ⟨#[237]⟩, 0, 3), (322, ⟨#[239]⟩, 0, 3), (325, ⟨#[243]⟩, 0, 4), (328, ⟨#[246]⟩, 0, 4), (331, ⟨#[250]⟩, 0, 5), (334, ⟨#[252]⟩, 0, 5), (338, ⟨#[]⟩, -1, 3), (341, ⟨#[73]⟩, 0, 2), (344, ⟨#[89]⟩, 0, 1), (348, ⟨#[100, 100]⟩, -1, -1), (351, ⟨#[107, 107]⟩, -1, -1), (354, ⟨#[116, 116]⟩, -1, -1), (358, ⟨#[101, 110, 101]⟩, -1, 2), (361, ⟨#[115, 101]⟩, -1, 3), (364, ⟨#[101, 110]⟩, -1, 2), (367, ⟨#[104, 101, 100, 101, 110]⟩, 2, 1), (370, ⟨#[115]⟩, -1, 3), (374, ⟨#[101, 110, 100]⟩, -1, 1), (377, ⟨#[105, 103]⟩, -1, 2), (380, ⟨#[105, 110, 103]⟩, -1, 1), (383, ⟨#[108, 105, 106, 107]⟩, -1, 3), (386, ⟨#[98, 97, 97, 114]⟩, -1, 4), (389, ⟨#[98, 97, 114]⟩, -1, 5), (393, ⟨#[97, 97]⟩, -1, -1), (396, ⟨#[101, 101]⟩, -1, -1), (399, ⟨#[111, 111]⟩, -1, -1), (402, ⟨#[117, 117]⟩, -1, -1)]
def amoAt : List (Nat × Str × Int × Int) → Addr → Str → Option Atom
  | [], _, _ => none
  | (b, s, i, r) :: l, a, x => if a = b then (if x = .ofString "s" then some (.str s) else if x = .ofString "substring_i" then some (.int i) else if x = .ofString "result" then some (.int r) else none) else amoAt l a x
def clsTab : List (Str × Addr) := [(.ofString "g_v", 230), (.ofString "g_v_I", 231), (.ofString "g_v_j", 232), (.ofString "a_0", 336), (.ofString "a_1", 346), (.ofString "a_2", 356), (.ofString "a_3", 372), (.ofString "a_4", 391), (.ofString "a_5", 404)]
def tabs : Tabs where
  glob x := if x = .ofString "_law_signs" then some (.at (.str signsS)) else if x = .ofString "_law_vowels" then some (.list vowelsL) else none
  cattr x := clsTab.lookup x
  amo := amoAt amoRows
def cl (n : Nat) : Call := callN tabs fns 1000 n
end Mine
namespace Mine
noncomputable def KK (P : Params) : Frag := [(0, (boot_o_0 P)),
  (1, (boot_o_1 P)),
  (2, (q228 P)),
  (3, (q286 P)),
  (4, (boot_o_4 P)),
  (5, (boot_o_5 P)),
  (6, (boot_o_6 P)),
  (7, (boot_o_7 P)),
  (8, (boot_o_8 P)),
  (9, (boot_o_9 P)),
  (10, (boot_o_10 P)),
  (11, (S0.o_1 P)),
  (12, (q287 P)),
  (13, (S0.o_3 P)),
  (14, (S0.o_4 P)),
  (15, (S0.o_7 P)),
  (16, (S0.o_8 P)),
  (17, (S0.o_9 P)),
  (18, (S0.o_10 P)),
  (19, (S0.o_11 P)),
  (20, (S0.o_12 P)),
  (21, (S0.o_13 P)),
  (22, (S0.o_17 P)),
  (23, (S0.o_18 P)),
  (24, (S0.o_19 P)),
  (25, (S0.o_20 P)),
  (26, (S0.o_21 P)),
  (27, (S0.o_22 P)),
  (28, (S0.o_23 P)),
  (29, (S0.o_24 P)),
  (30, (S0.o_25 P)),
  (31, (S0.o_26 P)),
  (32, (S0.o_27 P)),
  (33, (S0.o_28 P)),
  (34, (S0.o_29 P)),
  (35, (S0.o_30 P)),
  (36, (S0.o_31 P)),
  (37, (S0.o_32 P)),
  (38, (S0.o_33 P)),
  (39, (S0.o_34 P)),
  (40, (S0.o_35 P)),
  (41, (S0.o_36 P)),
  (42, (S0.o_37 P)),
  (43, (S0.o_38 P)),
  (44, (S0.o_39 P)),
  (45, (S0.o_40 P)),
  (46, (S0.o_41 P)),
  (47, (S0.o_42 P)),
  (48, (S0.o_43 P)),
  (49, (S0.o_44 P)),
  (50, (S0.o_45 P)),
  (51, (S0.o_46 P)),
  (52, (S0.o_47 P)),
  (53, (S0.o_48 P)),
  (54, (S0.o_49 P)),
  (55, (S0.o_50 P)),
  (56, (S0.o_51 P)),
  (57, (S0.o_52 P)),
  (58, (S0.o_53 P)),
  (59, (S0.o_54 P)),
  (60, (S0.o_55 P)),
  (61, (S0.o_56 P)),
  (62, (S0.o_57 P)),
  (63, (S0.o_58 P)),
  (64, (S0.o_59 P)),
  (65, (S0.o_60 P)),
  (66, (S0.o_61 P)),
  (67, (S0.o_62 P)),
  (68, (S0.o_63 P)),
  (69, (S0.o_64 P)),
  (70, (S0.o_65 P)),
  (71, (S0.o_66 P)),
  (72, (S0.o_67 P)),
  (73, (S0.o_68 P)),
  (74, (S0.o_69 P)),
  (75, (S0.o_70 P)),
  (76, (S0.o_71 P)),
  (77, (S0.o_72 P)),
  (78, (S0.o_73 P)),
  (79, (S0.o_74 P)),
  (80, (S0.o_75 P)),
  (81, (S0.o_76 P)),
  (82, (S0.o_77 P)),
  (83, (S0.o_78 P)),
  (84, (S0.o_79 P)),
  (85, (S0.o_80 P)),
  (86, (S0.o_81 P)),
  (87, (S0.o_82 P)),
  (88, (S0.o_83 P)),
  (89, (S0.o_84 P)),
  (90, (S0.o_85 P)),
  (91, (S0.o_86 P)),
  (92, (S0.o_87 P)),
  (93, (S0.o_88 P)),
  (94, (S0.o_89 P)),
  (95, (S0.o_90 P)),
  (96, (S0.o_91 P)),
  (97, (S0.o_92 P)),
  (98, (S0.o_93 P)),
  (99, (S0.o_94 P)),
  (100, (S0.o_95 P)),
  (101, (S0.o_96 P)),
  (102, (S0.o_97 P)),
  (103, (S0.o_98 P)),
  (104, (S0.o_99 P)),
  (105, (S0.o_100 P)),
  (106, (S0.o_101 P)),
  (107, (S0.o_102 P)),
  (108, (S0.o_103 P)),
  (109, (S0.o_104 P)),
  (110, (S0.o_105 P)),
  (111, (S0.o_106 P)),
  (112, (S0.o_107 P)),
  (113, (S0.o_108 P)),
  (114, (S0.o_109 P)),
  (115, (S0.o_110 P)),
  (116, (S0.o_111 P)),
  (117, (S0.o_112 P)),
  (118, (S0.o_113 P)),
  (119, (S0.o_114 P)),
  (120, (S0.o_115 P)),
  (121, (S0.o_116 P)),
  (122, (S0.o_117 P)),
  (123, (S0.o_118 P)),
  (124, (S0.o_119 P)),
  (125, (S0.o_120 P)),
  (126, (S0.o_121 P)),
  (127, (S0.o_122 P)),
  (128, (S0.o_123 P)),
  (129, (S0.o_124 P)),
  (130, (S0.o_125 P)),
  (131, (S0.o_126 P)),
  (132, (S0.o_127 P)),
  (133, (S0.o_128 P)),
  (134, (S0.o_129 P)),
  (135, (S0.o_130 P)),
  (136, (S0.o_131 P)),
  (137, (S0.o_132 P)),
  (138, (S0.o_133 P)),
  (139, (S0.o_134 P)),
  (140, (S0.o_135 P)),
  (141, (S0.o_136 P)),
  (142, (S0.o_137 P)),
  (143, (S0.o_138 P)),
  (144, (S0.o_139 P)),
  (145, (S0.o_140 P)),
  (146, (S0.o_141 P)),
  (147, (S0.o_142 P)),
  (148, (S0.o_143 P)),
  (149, (S0.o_144 P)),
  (150, (S0.o_145 P)),
  (151, (S0.o_146 P)),
  (152, (S0.o_147 P)),
  (153, (S0.o_148 P)),
  (154, (S0.o_149 P)),
  (155, (S0.o_150 P)),
  (156, (S0.o_151 P)),
  (157, (S0.o_152 P)),
  (158, (S0.o_153 P)),
  (159, (S0.o_154 P)),
  (160, (S0.o_155 P)),
  (161, (S0.o_156 P)),
  (162, (S0.o_157 P)),
  (163, (S0.o_158 P)),
  (164, (S0.o_159 P)),
  (165, (S0.o_160 P)),
  (166, (S0.o_161 P)),
  (167, (S0.o_162 P)),
  (168, (S0.o_163 P)),
  (169, (S0.o_164 P)),
  (170, (S0.o_165 P)),
  (171, (S0.o_166 P)),
  (172, (S0.o_167 P)),
  (173, (S0.o_168 P)),
  (174, (S0.o_169 P)),
  (175, (S0.o_170 P)),
  (176, (S0.o_171 P)),
  (177, (S0.o_172 P)),
  (178, (S0.o_173 P)),
  (179, (S0.o_174 P)),
  (180, (S0.o_175 P)),
  (181, (S0.o_176 P)),
  (182, (S0.o_177 P)),
  (183, (S0.o_178 P)),
  (184, (S0.o_179 P)),
  (185, (S0.o_180 P)),
  (186, (S0.o_181 P)),
  (187, (S0.o_182 P)),
  (188, (S0.o_183 P)),
  (189, (S0.o_184 P)),
  (190, (S0.o_185 P)),
  (191, (S0.o_186 P)),
  (192, (S0.o_187 P)),
  (193, (S0.o_188 P)),
  (194, (S0.o_189 P)),
  (195, (S0.o_190 P)),
  (196, (S0.o_191 P)),
  (197, (q192 P)),
  (198, (S0.o_193 P)),
  (199, (S0.o_194 P)),
  (200, (S0.o_195 P)),
  (201, (S0.o_196 P)),
  (202, (S0.o_287 P)),
  (203, (S0.o_288 P)),
  (204, (S0.o_289 P)),
  (205, (S0.o_290 P)),
  (206, (S0.o_291 P)),
  (207, (S0.o_292 P)),
  (208, (S0.o_293 P)),
  (209, (S0.o_294 P)),
  (210, (S0.o_295 P)),
  (211, (S0.o_296 P)),
  (212, (S0.o_297 P)),
  (213, (S0.o_298 P)),
  (214, (S0.o_299 P)),
  (215, (S0.o_300 P)),
  (216, (S0.o_301 P)),
  (217, (S0.o_302 P)),
  (218, (S0.o_303 P)),
  (219, (S0.o_304 P)),
  (220, (S0.o_305 P)),
  (221, (S0.o_306 P)),
  (222, (S0.o_307 P)),
  (223, (q1 P)),
  (224, (q2 P)),
  (225, (q193 P)),
  (226, (q4 P)),
  (227, (q12 P)),
  (228, (q6 P)),
  (229, (q7 P)),
  (230, (gO0 P)),
  (231, (gO1 P)),
  (232, (gO2 P)),
  (233, (q13 P)),
  (234, (q14 P)),
  (235, (q15 P)),
  (236, (q16 P)),
  (237, (q17 P)),
  (238, (q18 P)),
  (239, (q19 P)),
  (240, (q20 P)),
  (241, (q21 P)),
  (242, (q22 P)),
  (243, (q23 P)),
  (244, (q24 P)),
  (245, (q25 P)),
  (246, (q26 P)),
  (247, (q27 P)),
  (248, (q28 P)),
  (249, (q29 P)),
  (250, (q30 P)),
  (251, (q31 P)),
  (252, (q32 P)),
  (253, (q33 P)),
  (254, (q34 P)),
  (255, (q35 P)),
  (256, (q36 P)),
  (257, (q37 P)),
  (258, (q38 P)),
  (259, (q39 P)),
  (260, (q40 P)),
  (261, (q41 P)),
  (262, (q42 P)),
  (263, (q43 P)),
  (264, (q44 P)),
  (265, (q45 P)),
  (266, (q46 P)),
  (267, (q47 P)),
  (268, (q48 P)),
  (269, (q49 P)),
  (270, (q50 P)),
  (271, (q51 P)),
  (272, (q52 P)),
  (273, (q53 P)),
  (274, (q54 P)),
  (275, (q55 P)),
  (276, (q56 P)),
  (277, (q57 P)),
  (278, (q58 P)),
  (279, (q59 P)),
  (280, (q60 P)),
  (281, (q61 P)),
  (282, (q62 P)),
  (283, (q63 P)),
  (284, (q64 P)),
  (285, (q65 P)),
  (286, (q66 P)),
  (287, (q67 P)),
  (288, (q68 P)),
  (289, (q69 P)),
  (290, (q70 P)),
  (291, (q71 P)),
  (292, (q72 P)),
  (293, (q73 P)),
  (294, (q74 P)),
  (295, (q75 P)),
  (296, (q76 P)),
  (297, (q77 P)),
  (298, (q78 P)),
  (299, (q79 P)),
  (300, (q80 P)),
  (301, (q81 P)),
  (302, (q82 P)),
  (303, (q84 P)),
  (304, (q85 P)),
  (305, (q86 P)),
  (306, (q87 P)),
  (307, (q88 P)),
  (308, (q89 P)),
  (309, (q90 P)),
  (310, (q91 P)),
  (311, (q92 P)),
  (312, (q93 P)),
  (313, (q94 P)),
  (314, (q95 P)),
  (315, (q96 P)),
  (316, (q97 P)),
  (317, (q98 P)),
  (318, (q99 P)),
  (319, (q100 P)),
  (320, (q101 P)),
  (321, (q102 P)),
  (322, (q103 P)),
  (323, (q104 P)),
  (324, (q105 P)),
  (325, (q106 P)),
  (326, (q107 P)),
  (327, (q108 P)),
  (328, (q109 P)),
  (329, (q110 P)),
  (330, (q111 P)),
  (331, (q112 P)),
  (332, (q113 P)),
  (333, (q114 P)),
  (334, (q115 P)),
  (335, (q116 P)),
  (336, (q117 P)),
  (337, (q119 P)),
  (338, (q120 P)),
  (339, (q121 P)),
  (340, (q122 P)),
  (341, (q123 P)),
  (342, (q124 P)),
  (343, (q125 P)),
  (344, (q126 P)),
  (345, (q127 P)),
  (346, (q128 P)),
  (347, (q130 P)),
  (348, (q131 P)),
  (349, (q132 P)),
  (350, (q133 P)),
  (351, (q134 P)),
  (352, (q135 P)),
  (353, (q136 P)),
  (354, (q137 P)),
  (355, (q138 P)),
  (356, (q139 P)),
  (357, (q141 P)),
  (358, (q142 P)),
  (359, (q143 P)),
  (360, (q144 P)),
  (361, (q145 P)),
  (362, (q146 P)),
  (363, (q147 P)),
  (364, (q148 P)),
  (365, (q149 P)),
  (366, (q150 P)),
  (367, (q151 P)),
  (368, (q152 P)),
  (369, (q153 P)),
  (370, (q154 P)),
  (371, (q155 P)),
  (372, (q156 P)),
  (373, (q158 P)),
  (374, (q159 P)),
  (375, (q160 P)),
  (376, (q161 P)),
  (377, (q162 P)),
  (378, (q163 P)),
  (379, (q164 P)),
  (380, (q165 P)),
  (381, (q166 P)),
  (382, (q167 P)),
  (383, (q168 P)),
  (384, (q169 P)),
  (385, (q170 P)),
  (386, (q171 P)),
  (387, (q172 P)),
  (388, (q173 P)),
  (389, (q174 P)),
  (390, (q175 P)),
  (391, (q176 P)),
  (392, (q178 P)),
  (393, (q179 P)),
  (394, (q180 P)),
  (395, (q181 P)),
  (396, (q182 P)),
  (397, (q183 P)),
  (398, (q184 P)),
  (399, (q185 P)),
  (400, (q186 P)),
  (401, (q187 P)),
  (402, (q188 P)),
  (403, (q189 P)),
  (404, (q190 P)),
  (405, (q194 P)),
  (406, (q195 P)),
  (407, (q196 P)),
  (408, (q197 P)),
  (409, (q198 P)),
  (410, (q202 P)),
  (411, (q203 P)),
  (412, (q204 P)),
  (413, (q205 P)),
  (414, (q206 P)),
  (415, (q207 P)),
  (416, (q208 P)),
  (417, (q209 P)),
  (418, (q210 P)),
  (419, (q211 P)),
  (420, (q212 P)),
  (421, (q213 P)),
  (422, (q214 P)),
  (423, (q215 P)),
  (424, (q216 P)),
  (425, (q217 P)),
  (426, (q218 P)),
  (427, (q219 P)),
  (428, (q220 P)),
  (429, (q221 P)),
  (430, (q222 P)),
  (431, (q223 P)),
  (432, (q224 P)),
  (433, (q225 P)),
  (434, (q226 P)),
  (435, (q227 P)),
  (436, (q231 P)),
  (437, (q232 P)),
  (438, (q233 P)),
  (439, (q234 P)),
  (440, (q235 P)),
  (441, (q236 P)),
  (442, (q237 P)),
  (443, (q238 P)),
  (444, (q239 P)),
  (445, (q240 P)),
  (446, (q241 P)),
  (447, (q242 P)),
  (448, (q243 P)),
  (449, (q244 P)),
  (450, (q245 P)),
  (451, (q246 P)),
  (452, (q247 P)),
  (453, (q248 P)),
  (454, (q249 P)),
  (455, (q250 P)),
  (456, (q251 P)),
  (457, (q252 P)),
  (458, (q253 P)),
  (459, (q254 P)),
  (460, (q255 P)),
  (461, (q256 P)),
  (462, (q259 P)),
  (463, (q260 P)),
  (464, (q261 P)),
  (465, (q262 P)),
  (466, (q263 P)),
  (467, (q264 P)),
  (468, (q265 P)),
  (469, (q266 P)),
  (470, (q267 P)),
  (471, (q268 P)),
  (472, (q269 P)),
  (473, (q270 P)),
  (474, (q271 P)),
  (475, (q272 P)),
  (476, (q273 P)),
  (477, (q274 P)),
  (478, (q275 P)),
  (479, (q276 P)),
  (480, (q277 P)),
  (481, (q278 P)),
  (482, (q279 P)),
  (483, (q280 P)),
  (484, (q281 P)),
  (485, (q282 P)),
  (486, (q283 P)),
  (487, (q284 P)),
  (488, (q285 P)),
  (489, (q288 P)),
  (490, (q289 P)),
  (491, (q290 P)),
  (492, (q291 P)),
  (493, (q292 P)),
  (494, (q293 P)),
  (495, (q294 P)),
  (496, (q295 P)),
  (497, (q296 P)),
  (498, (q297 P)),
  (499, (q298 P)),
  (500, (q299 P)),
  (501, (q300 P)),
  (502, (q301 P)),
  (503, (q302 P)),
  (504, (q303 P)),
  (505, (q304 P)),
  (506, (q305 P)),
  (507, (q306 P)),
  (508, (q307 P)),
  (509, (q308 P)),
  (510, (q309 P)),
  (511, (q310 P)),
  (512, (q311 P)),
  (513, (q312 P)),
  (514, (q313 P)),
  (515, (q314 P)),
  (516, (q315 P)),
  (517, (q316 P)),
  (518, (q317 P)),
  (519, (q318 P)),
  (520, (q319 P)),
  (521, (q320 P)),
  (522, (q321 P)),
  (523, (q322 P)),
  (524, (q323 P)),
  (525, (q324 P)),
  (526, (q325 P)),
  (527, (q326 P)),
  (528, (q327 P)),
  (529, (q328 P)),
  (530, (q329 P)),
  (531, (q330 P)),
  (532, (q331 P)),
  (533, (q332 P)),
  (534, (q333 P)),
  (535, (q334 P)),
  (536, (q335 P)),
  (537, (q336 P)),
  (538, (q337 P)),
  (539, (q338 P)),
  (540, (q339 P))]
theorem kk_in (P : Params) : (KK P).In (Hfin P) := Frag.in_of (as := List.range 541) (by kernel_rfl!) (by kernel_rfl!)
theorem t1 (P : Params) : nsIn (KK P) mainGlobals "DutchPorterStemmer" = some (some (.ref 407)) := by kernel_rfl!
theorem t2 (P : Params) : findIn (KK P) (.ref 407) "__getattribute__" = some (some (.builtin "object.__getattribute__")) := by kernel_rfl!
theorem t3 (P : Params) : findIn (KK P) (.ref 407) "__getattr__" = some none := by kernel_rfl!
end Mine
namespace Mine
structure Sit where
  A : Around
  env : Env
  fr : List Env
  names : List Str
  inst : Option (Addr × Addr)
  os : OsState
def fnames : List Str := [.ofString "current", .ofString "cursor", .ofString "limit", .ofString "limit_backward", .ofString "bra", .ofString "ket", .ofString "I_p1", .ofString "I_p2", .ofString "B_e_found"]
def RepA (I : Option (Addr × Addr)) : Atom → Value → Prop
  | .int i, v => ∃ t, v = .int i t
  | .str x, v => ∃ t, v = .str x t
  | .cst c, v => v = c
  | .me, v => ∃ x dx, I = some (x, dx) ∧ v = .ref x
inductive Reps (I : Option (Addr × Addr)) : List Atom → List Value → Prop
  | nil : Reps I [] []
  | cons {a v l vs} : RepA I a v → Reps I l vs → Reps I (a :: l) (v :: vs)
def DictIs (w : World) (h : Heap) (a : Addr) (l : List (Str × Str)) : Prop := (a == sysModules) = false ∧ ∃ f, h.MapOf (strKind PySem.Challenge.pw_ip0004_01 w) a f ∧ ∀ x, ∃ t, f x = (dictGet x l).map fun y => Value.str y t
def RangeIs (h : Heap) (a : Addr) (lo hi st : Int) : Prop := ∃ t u v, h.get? a = some { cls := .type "range", dict := none, data := .fields #[.int lo t, .int hi u, .int st v], slots := #[] }
def Apart (fr : List Env) (I : Option (Addr × Addr)) (a : Addr) : Prop := a ∉ fr.filterMap (·.frame) ∧ ∀ x, I ≠ some (x, a)
def OwnIs (h : Heap) (a : Addr) (vs : Array Value) : Prop := ∃ o n, h.get? a = some o ∧ o.cls = .type "list" ∧ o.dict = none ∧ o.data = .seq vs n
def TupIs (h : Heap) (a : Addr) (vs : Array Value) : Prop := ∃ o n, h.get? a = some o ∧ o.cls = .type "tuple" ∧ o.data = .seq vs n
def Rep (w : World) (fr : List Env) (I : Option (Addr × Addr)) (g : Option Addr) (h : Heap) : AV → Value → Prop
  | .at a, v => RepA I a v
  | .list l, v => ∃ a vs, v = .ref a ∧ g ≠ some a ∧ h.IsList a vs ∧ Reps I l vs.toList
  | .tup l, v => ∃ a vs, v = .ref a ∧ g ≠ some a ∧ TupIs h a vs ∧ Reps I l vs.toList
  | .own l, v => ∃ a vs, v = .ref a ∧ g = some a ∧ OwnIs h a vs ∧ Reps I l vs.toList
  | .dict l, v => ∃ a, v = .ref a ∧ g ≠ some a ∧ Apart fr I a ∧ DictIs w h a l
  | .rng lo hi st, v => ∃ a, v = .ref a ∧ g ≠ some a ∧ Apart fr I a ∧ RangeIs h a lo hi st
def frA (fr : List Env) : List Addr := fr.filterMap (·.frame)
def dl (I : Option (Addr × Addr)) : List Addr := match I with
  | some (_, dx) => [dx]
  | none => []
structure Kp (fr : List Env) (D : List Addr) (h h' : Heap) : Prop where
  exact : ∀ b o, h.get? b = some o → b ∉ D → b ∉ frA fr → h'.get? b = some o
  slots : ∀ b o, h.get? b = some o → b ∉ D → ∃ sl, h'.get? b = some { o with slots := sl }
theorem Kp.refl (fr D h) : Kp fr D h h := ⟨fun _ _ e _ _ => e, fun _ o e _ => ⟨o.slots, e⟩⟩
theorem Kp.trans {fr D h₁ h₂ h₃} (x : Kp fr D h₁ h₂) (y : Kp fr D h₂ h₃) : Kp fr D h₁ h₃ :=
  ⟨fun b o e hd hf => y.exact b o (x.exact b o e hd hf) hd hf, fun b o e hd => let ⟨_, e₁⟩ := x.slots b o e hd; let ⟨sl, e₂⟩ := y.slots b _ e₁ hd; ⟨sl, e₂⟩⟩
theorem Kp.of_keep {fr D h h'} (k : ∀ b o, h.get? b = some o → h'.get? b = some o) : Kp fr D h h' := ⟨fun b o e _ _ => k b o e, fun b o e _ => ⟨o.slots, k b o e⟩⟩
theorem Kp.of_but {fr : List Env} {D : List Addr} {h h' : Heap} {a : Addr} (ha : a ∈ D) (k : ∀ b o, b ≠ a → h.get? b = some o → h'.get? b = some o) : Kp fr D h h' :=
  ⟨fun b o e hd _ => k b o (fun q => hd (q ▸ ha)) e, fun b o e hd => ⟨o.slots, k b o (fun q => hd (q ▸ ha)) e⟩⟩
theorem Kp.mono {fr D D' h h'} (x : Kp fr D h h') (s : ∀ b, b ∈ D → b ∈ D') : Kp fr D' h h' :=
  ⟨fun b o e hd hf => x.exact b o e (fun q => hd (s b q)) hf, fun b o e hd => x.slots b o e fun q => hd (s b q)⟩
def FieldIs (I : Option (Addr × Addr)) : Option (Option Atom) → Option Value → Prop
  | some (some a), v => ∃ u, v = some u ∧ RepA I a u ∧ isPl a = true
  | _, v => v = none
structure InstOk (fr : List Env) (B h : Heap) (x dx : Addr) (fl : FL) : Prop where
  obj : h.get? x = some ⟨.ref 407, some dx, .plain, #[]⟩
  ns : ∃ mA, h.Ns1 dx mA ∧ (∀ n, n ∉ fnames → mA n = none) ∧ (∀ (i : Nat) n, fnames[i]? = some n → FieldIs (some (x, dx)) (fl[i]?) (mA n))
  dcl : ∃ o es ep, h.get? dx = some o ∧ o.data = .dict es ep
  len : fl.length = 9
  ne : dx ≠ x
  xf : x ∉ frA fr
  df : dx ∉ frA fr
  bx : B.get? x = none
  bd : B.get? dx = none
structure HInv (B : Heap) (fr : List Env) (I : Option (Addr × Addr)) (fl : FL) (h : Heap) : Prop where
  stays : B.StaysIn h
  frs : h.FunFrames B fr
  inst : ∀ x dx, I = some (x, dx) → InstOk fr B h x dx fl
def ReadsVar (env : Env) (h : Heap) (x : Str) (v : Value) : Prop :=
  (env.kindOf x = some .local ∧ ∃ m, h.Ns env.locals m ∧ m x = some v) ∨
  (env.kindOf x = some .cell ∧ ∃ c, env.cells.lookup x = some c ∧ ∃ o, h.get? c = some o ∧ o.data = .cell (some v))
structure Inv (w : World) (B : Heap) (S : Sit) (g : Option Addr) (σ : AS) (s : Shared) : Prop extends HInv B S.fr S.inst σ.fl s.heap where
  loc : ∃ m, s.heap.Ns S.env.locals m
  vars : ∀ (i : Nat) v, σ.loc[i]? = some (some v) → ∃ x val, S.names[i]? = some x ∧ ReadsVar S.env s.heap x val ∧ Rep w S.fr S.inst g s.heap v val
  dr : ∀ (i : Nat) v, σ.loc[i]? = some (some v) → v.isDR = false
  len : σ.loc.length = S.names.length
  ld : S.env.locals ∉ dl S.inst
  gown : ∀ a, g = some a → hasOwn σ = true ∧ a ≠ S.env.locals ∧ a ∉ dl S.inst ∧ a ∉ frA S.fr ∧ B.get? a = none ∧ ∃ vs, OwnIs s.heap a vs
  gens : s.gens = #[]
  os : s.os = S.os
structure Good (n : Nat) (B : Heap) (S : Sit) : Prop where
  stack : S.A.frames = some S.fr
  handled : S.A.handled = none
  depth : S.A.depth + n + 10 ≤ recursionLimit
  units : S.A.units + 4 * n + 200 ≤ cLine
  kind : S.env.scope.kind = .function
  globals : S.env.globals = mainGlobals
  builtins : S.env.builtins = builtinsNs
  nodup : S.names.Nodup
  newL : B.get? S.env.locals = none
theorem RepA.str {I : Option (Addr × Addr)} {x : Str} {t : Tok} : RepA I (.str x) (.str x t) := ⟨t, rfl⟩
theorem RepA.int {I : Option (Addr × Addr)} {i : Int} {t : Tok} : RepA I (.int i) (.int i t) := ⟨t, rfl⟩
theorem repA_cst {I : Option (Addr × Addr)} {v : Value} : RepA I (.cst v) v := rfl
theorem Reps.get {I : Option (Addr × Addr)} {l : List Atom} {vs : List Value} (r : Reps I l vs) : ∀ {i : Nat} {a : Atom}, l[i]? = some a → ∃ v, vs[i]? = some v ∧ RepA I a v := by
  induction r with
  | nil => intro i a e; simp at e
  | cons ra _ ih =>
    intro i a e
    cases i with
    | zero => simp at e; subst e; exact ⟨_, rfl, ra⟩
    | succ i => simpa using ih (by simpa using e)
theorem Reps.len {I : Option (Addr × Addr)} {l : List Atom} {vs : List Value} (r : Reps I l vs) : vs.length = l.length := by
  induction r with
  | nil => rfl
  | cons _ _ ih => simp [ih]
theorem Reps.append {I : Option (Addr × Addr)} {l k : List Atom} {vs ws : List Value} (r : Reps I l vs) (q : Reps I k ws) : Reps I (l ++ k) (vs ++ ws) := by
  induction r with
  | nil => exact q
  | cons a _ ih => exact .cons a ih
theorem Reps.take {I : Option (Addr × Addr)} {l : List Atom} {vs : List Value} (r : Reps I l vs) (n : Nat) : Reps I (l.take n) (vs.take n) := by
  induction r generalizing n with
  | nil => simp; exact .nil
  | cons a _ ih => cases n with
    | zero => exact .nil
    | succ n => exact .cons a (ih n)
theorem Reps.drop {I : Option (Addr × Addr)} {l : List Atom} {vs : List Value} (r : Reps I l vs) (n : Nat) : Reps I (l.drop n) (vs.drop n) := by
  induction r generalizing n with
  | nil => simp; exact .nil
  | cons a r' ih => cases n with
    | zero => exact .cons a r'
    | succ n => exact ih n
theorem isList_slots {h h' : Heap} {a : Addr} {vs : Array Value} (x : h.IsList a vs) (k : ∀ o, h.get? a = some o → ∃ sl, h'.get? a = some { o with slots := sl }) : h'.IsList a vs := by
  obtain ⟨o, ho, hc, n, hd⟩ := x; obtain ⟨sl, e⟩ := k o ho; exact ⟨_, e, hc, n, hd⟩
theorem frs_keep {B h h' : Heap} {fr : List Env} (k : ∀ b o, h.get? b = some o → b ∈ frA fr → ∃ sl, h'.get? b = some { o with slots := sl }) : ∀ {l : List Env}, (∀ e ∈ l, e ∈ fr) → h.FunFrames B l → h'.FunFrames B l
  | [], _, _ => trivial
  | env :: r, hl, ⟨hk, ⟨L, o, hf, hn, ho, hd⟩, hr⟩ => by
    obtain ⟨sl, e⟩ := k L o ho (List.mem_filterMap.mpr ⟨env, hl env (.head _), hf⟩); exact ⟨hk, ⟨L, _, hf, hn, e, hd⟩, frs_keep k (fun e he => hl e (.tail _ he)) hr⟩
theorem Rep.keep {w : World} {fr : List Env} {I : Option (Addr × Addr)} {g : Option Addr} {h h' : Heap} {v : AV} {val : Value} (r : Rep w fr I g h v val) (k : ∀ b o, h.get? b = some o → (∃ vs n, o.data = .seq vs n) → ∃ sl, h'.get? b = some { o with slots := sl })
    (kd : ∀ b o, h.get? b = some o → Apart fr I b → h'.get? b = some o) : Rep w fr I g h' v val := by
  cases v with
  | «at» a => exact r
  | list l => obtain ⟨a, vs, e, n, hl, q⟩ := r; exact ⟨a, vs, e, n, isList_slots hl fun o ho => k a o ho (by obtain ⟨o', e', c, m, hd⟩ := hl; rw [ho] at e'; cases e'; exact ⟨_, m, hd⟩), q⟩
  | tup l =>
    obtain ⟨a, vs, e, n, ⟨o, m, ho, hc, hd⟩, q⟩ := r; obtain ⟨sl, e'⟩ := k a o ho ⟨_, m, hd⟩; exact ⟨a, vs, e, n, ⟨_, m, e', hc, hd⟩, q⟩
  | own l =>
    obtain ⟨a, vs, e, n, ⟨o, m, ho, hc, hdd, hd⟩, q⟩ := r; obtain ⟨sl, e'⟩ := k a o ho ⟨_, m, hd⟩; exact ⟨a, vs, e, n, ⟨_, m, e', hc, hdd, hd⟩, q⟩
  | dict l =>
    obtain ⟨a, e, n, z, y, f, ⟨o, es, ep, ho, r1⟩, q⟩ := r; exact ⟨a, e, n, z, y, f, ⟨o, es, ep, kd a o ho z, r1⟩, q⟩
  | rng lo hi st =>
    obtain ⟨a, e, n, z, t, u, v, ha⟩ := r; exact ⟨a, e, n, z, t, u, v, kd a _ ha z⟩
theorem mem_dl {I : Option (Addr × Addr)} {b : Addr} (h : b ∈ dl I) : ∃ x, I = some (x, b) := by
  cases I with
  | none => simp [dl] at h
  | some p => obtain ⟨x, dx⟩ := p; simp [dl] at h; exact ⟨x, by rw [h]⟩
theorem not_dl_data {B h : Heap} {fr : List Env} {I : Option (Addr × Addr)} {fl : FL} (H : HInv B fr I fl h) {a : Addr} {o : Obj} (e : h.get? a = some o) (hc : ∀ es ep, o.data ≠ .dict es ep) : a ∉ dl I := fun m => by
  obtain ⟨x, rfl⟩ := mem_dl m; obtain ⟨o', es, ep, e', hd⟩ := (H.inst x a rfl).dcl; rw [e] at e'; cases e'; exact hc es ep hd
theorem Rep.kp {w : World} {B h h' : Heap} {fr : List Env} {I : Option (Addr × Addr)} {fl : FL} {g : Option Addr} {v : AV} {val : Value} (H : HInv B fr I fl h) (r : Rep w fr I g h v val) (k : Kp fr (dl I) h h') : Rep w fr I g h' v val :=
  r.keep (fun b o e hc => k.slots b o e (not_dl_data H e fun es ep q => by obtain ⟨vs, m, hd⟩ := hc; rw [q] at hd; cases hd)) fun b o e hn => k.exact b o e (fun m => let ⟨x, q⟩ := mem_dl m; hn.2 x q) hn.1
theorem InstOk.keep {fr : List Env} {B h h' : Heap} {x dx : Addr} {fl : FL} (K : InstOk fr B h x dx fl) (k : ∀ o, h.get? x = some o → h'.get? x = some o) (kd : ∀ o, h.get? dx = some o → h'.get? dx = some o) : InstOk fr B h' x dx fl := by
  obtain ⟨a, ⟨mA, ⟨o, es, ep, ho, q1, q2, q3, q4⟩, q5⟩, ⟨o', es', ep', b1, b2⟩, c, d, e, f, i, j⟩ := K; exact ⟨k _ a, ⟨mA, ⟨o, es, ep, kd _ ho, q1, q2, q3, q4⟩, q5⟩, ⟨o', es', ep', kd _ b1, b2⟩, c, d, e, f, i, j⟩
theorem HInv.keep {B h h' : Heap} {fr : List Env} {I : Option (Addr × Addr)} {fl : FL} (H : HInv B fr I fl h) (k : ∀ b o, h.get? b = some o → h'.get? b = some o) : HInv B fr I fl h' :=
  ⟨fun b o e => k b o (H.stays b o e), frs_keep (fun b o e _ => ⟨o.slots, k b o e⟩) (fun _ h => h) H.frs, fun x dx q => (H.inst x dx q).keep (k x) (k dx)⟩
theorem ns_slots {h h' : Heap} {a : Addr} {m : Str → Option Value} (x : h.Ns a m) (k : ∀ o, h.get? a = some o → ∃ sl, h'.get? a = some { o with slots := sl }) : h'.Ns a m := by
  obtain ⟨o, es, ep, ho, r⟩ := x; obtain ⟨sl, e⟩ := k o ho; exact ⟨_, es, ep, e, r⟩
theorem ReadsVar.kp {B h h' : Heap} {fr : List Env} {I : Option (Addr × Addr)} {fl : FL} {env : Env} {x : Str} {v : Value} (H : HInv B fr I fl h) (hl : env.locals ∉ dl I) (k : Kp fr (dl I) h h') (r : ReadsVar env h x v) : ReadsVar env h' x v := by
  rcases r with ⟨a, m, hn, e⟩ | ⟨a, c, hc, o, ho, hd⟩
  · exact .inl ⟨a, m, ns_slots hn fun o q => k.slots _ o q hl, e⟩
  · obtain ⟨sl, e⟩ := k.slots c o ho (not_dl_data H ho fun es ep q => by rw [hd] at q; cases q)
    exact .inr ⟨a, c, hc, _, e, hd⟩
theorem Inv.kp {w : World} {B : Heap} {S : Sit} {g : Option Addr} {σ : AS} {s s' : Shared} {fl' : FL} (V : Inv w B S g σ s) (H : HInv B S.fr S.inst fl' s'.heap) (k : Kp S.fr (dl S.inst) s.heap s'.heap) (hg : s'.gens = #[]) (ho : s'.os = S.os) :
    Inv w B S g ⟨σ.loc, fl'⟩ s' where
  toHInv := H
  loc := let ⟨m, hn⟩ := V.loc; ⟨m, ns_slots hn fun o q => k.slots _ o q V.ld⟩
  vars i v e := let ⟨x, val, h1, h2, h3⟩ := V.vars i v e; ⟨x, val, h1, h2.kp V.toHInv V.ld k, h3.kp V.toHInv k⟩
  dr := V.dr
  len := V.len
  ld := V.ld
  gown a e := by
    obtain ⟨h1, h2, h3, h4, h5, vs, o, n, e1, e2, e3, e4⟩ := V.gown a e; obtain ⟨sl, q⟩ := k.slots a o e1 h3; exact ⟨h1, h2, h3, h4, h5, vs, _, n, q, e2, e3, e4⟩
  gens := hg
  os := ho
theorem Inv.keep {w : World} {B : Heap} {S : Sit} {g : Option Addr} {σ : AS} {s s' : Shared} (V : Inv w B S g σ s) (k : ∀ b o, s.heap.get? b = some o → s'.heap.get? b = some o) (hg : s'.gens = s.gens := by rfl) (ho : s'.os = s.os := by rfl) : Inv w B S g σ s' :=
  V.kp (V.toHInv.keep k) (.of_keep k) (hg.trans V.gens) (ho.trans V.os)
def Post (w : World) (B : Heap) (S : Sit) (g : Option Addr) (σ : AS) (s : Shared) (fl : FL) (v : AV) (Q : Value → Shared → Prop) : Prop :=
  ∀ val s', Inv w B S g ⟨σ.loc, fl⟩ s' → Kp S.fr (dl S.inst) s.heap s'.heap → Rep w S.fr S.inst g s'.heap v val → Q val s'
abbrev MM (w : World) : Model := model PySem.Challenge.rw_ip0004_01.row.toRowW.prog w
end Mine
namespace Mine
theorem pick_range' {α : Type} (l : List α) : ∀ (k a : Nat), a + k ≤ l.length → (List.range' a k).filterMap (l[·]?) = (l.drop a).take k
  | 0, a, _ => by simp
  | k + 1, a, h => by
    have ha : a < l.length := by omega
    rw [List.range'_succ, List.filterMap_cons, List.getElem?_eq_getElem ha]; simp only; rw [pick_range' l k (a + 1) (by omega), List.drop_eq_getElem_cons ha, List.take_succ_cons]
theorem sliceRange_one (a b : Int) (ha : 0 ≤ a) : sliceRange a b 1 = List.range' a.toNat (b - a).toNat := by
  unfold sliceRange; simp only [show (1 : Int) > 0 by decide, if_true]
  have e : (if a < b then (b - a + 1 - 1) / 1 else 0).toNat = (b - a).toNat := by
    split <;> omega
  rw [e, List.range'_eq_map_range]; refine List.map_congr_left fun k _ => ?_
  omega
def hiN (hi : Option Int) (n : Nat) : Nat := match hi with
  | some h => min h.toNat n
  | none => n
theorem pick_slice {α : Type} (l : List α) (lo : Int) (hi : Option Int) (h0 : 0 ≤ lo) (h1 : 0 ≤ hi.getD 0) :
    (List.range' (min lo.toNat l.length) (hiN hi l.length - min lo.toNat l.length)).filterMap (l[·]?) = (match hi with | some h => l.take h.toNat | none => l).drop lo.toNat := by
  by_cases hl : min lo.toNat l.length ≤ hiN hi l.length
  · have hn : hiN hi l.length ≤ l.length := by unfold hiN; cases hi <;> simp <;> omega
    rw [pick_range' l _ _ (by omega)]
    cases hi with
    | none =>
      simp only [hiN]
      by_cases h : lo.toNat ≤ l.length
      · rw [Nat.min_eq_left h, List.take_of_length_le (by simp)]
      · rw [Nat.min_eq_right (by omega), List.drop_of_length_le (l := l) (i := lo.toNat) (by omega)]; simp
    | some j =>
      simp only [hiN] at *
      by_cases h : lo.toNat ≤ l.length
      · rw [Nat.min_eq_left h] at *
        rw [List.drop_take]
        by_cases hj : j.toNat ≤ l.length
        · rw [Nat.min_eq_left hj]
        · rw [Nat.min_eq_right (by omega), List.take_of_length_le (by simp), List.take_of_length_le (by simp; omega)]
      · rw [Nat.min_eq_right (by omega)] at *
        rw [List.drop_of_length_le (l := l.take j.toNat) (by simp; omega)]; simp; omega
  · have e : hiN hi l.length - min lo.toNat l.length = 0 := by omega
    rw [e]
    cases hi with
    | none => simp only [hiN] at hl; omega
    | some j =>
      simp only [hiN] at hl; rw [List.drop_of_length_le (by simp; omega)]; simp
theorem strIdx (lo : Option Int) (hi : Option Int) (n : Nat) (h0 : 0 ≤ lo.getD 0) (h1 : 0 ≤ hi.getD 0) :
    Builtin.Str.strSliceIndices lo hi 1 n = List.range' (min (lo.getD 0).toNat n) (hiN hi n - min (lo.getD 0).toNat n) := by
  unfold Builtin.Str.strSliceIndices; simp only [show (1 : Int) > 0 by decide, if_true]
  have key : ∀ a b : Int, 0 ≤ a → a = ((min (lo.getD 0).toNat n : Nat) : Int) → b = (hiN hi n : Nat) → sliceRange a b 1 = List.range' (min (lo.getD 0).toNat n) (hiN hi n - min (lo.getD 0).toNat n) := by
    intro a b h ha hb
    rw [sliceRange_one a b h]; subst ha hb
    congr 1 <;> omega
  cases lo <;> cases hi <;> simp only [Option.getD_some, Option.getD_none, hiN] at * <;> (refine key _ _ ?_ ?_ ?_) <;> (try split) <;> omega
theorem txt_slice (x : Str) (lo : Option Int) (hi : Option Int) (h0 : 0 ≤ lo.getD 0) (h1 : 0 ≤ hi.getD 0) :
    Txt.slice x lo hi = ⟨((match hi with | some h => x.cps.toList.take h.toNat | none => x.cps.toList).drop (lo.getD 0).toNat).toArray⟩ := by
  have hp := pick_slice x.cps.toList (lo.getD 0) hi h0 h1
  have e : ((Builtin.Str.strSliceIndices lo hi 1 x.length).filterMap (x.cps[·]?)) = (match hi with | some h => x.cps.toList.take h.toNat | none => x.cps.toList).drop (lo.getD 0).toNat := by
    rw [strIdx lo hi x.length h0 h1, ← hp]; simp [Str.length]
  unfold Txt.slice; rw [← e]
  split
  · rename_i h
    rw [strIdx lo hi x.length h0 h1] at h ⊢
    have hn : hiN hi x.length ≤ x.length := by unfold hiN; cases hi <;> simp <;> omega
    have hl : hiN hi x.length - min (lo.getD 0).toNat x.length = x.length := by simpa using h
    have h2 : min (lo.getD 0).toNat x.length ≤ x.length := by omega
    have e2 : (List.range' (min (lo.getD 0).toNat x.length) (hiN hi x.length - min (lo.getD 0).toNat x.length)).filterMap (x.cps[·]?) = x.cps.toList := by
      have hz : min (lo.getD 0).toNat x.length = 0 := by omega
      rw [hz]; rw [hz] at hl; rw [hl]
      have := pick_range' x.cps.toList x.length 0 (by simp [Str.length])
      rw [List.drop_zero, List.take_of_length_le (by simp [Str.length])] at this
      simpa [Str.length] using this
    rw [e2]
  · rfl
theorem list_pick (items : Array Value) (lo : Option Int) (hi : Option Int) (h0 : 0 ≤ lo.getD 0) (h1 : 0 ≤ hi.getD 0) :
    slicePick items lo hi none = ((match hi with | some h => items.toList.take h.toNat | none => items.toList).drop (lo.getD 0).toNat).toArray := by
  have hp := pick_slice items.toList (lo.getD 0) hi h0 h1
  unfold slicePick
  congr 1
  rw [← hp]
  have e : sliceRange (sliceBounds lo hi none items.size).1 (sliceBounds lo hi none items.size).2.1 (sliceBounds lo hi none items.size).2.2 = List.range' (min (lo.getD 0).toNat items.size) (hiN hi items.size - min (lo.getD 0).toNat items.size) := by
    rw [← strIdx lo hi items.size h0 h1]; rfl
  rw [e]; simp
theorem idx_plain {i : Int} {n : Nat} (h0 : 0 ≤ i) (h1 : i.toNat < n) : seqIndex? i n = some i.toNat := by
  unfold seqIndex?
  have e : (if i < 0 then i + (n : Int) else i) = i := if_neg (by omega)
  simp only [e]; rw [if_pos (by simp; omega)]
end Mine
namespace Mine
theorem small_le {n : Nat} (h : small n = true) : n ≤ sizeLine := by
  have := of_decide_eq_true h
  rw [sizeLine_eq]; omega
theorem small_100 {n : Nat} (h : small n = true) : n ≤ 100000 := of_decide_eq_true h
section
variable {w : World} {B : Heap} {S : Sit} {g : Option Addr} {σ : AS} {s : Shared} {E : Value → Shared → Prop} {Q : Value → Shared → Prop} {fl : FL} {v : AV}
theorem Post.step {s₁ : Shared} {fl₁ : FL} (q : Post w B S g σ s fl v Q) (k : Kp S.fr (dl S.inst) s.heap s₁.heap) : Post w B S g ⟨σ.loc, fl₁⟩ s₁ fl v Q :=
  fun val s' V' k' r => q val s' V' (k.trans k') r
theorem Post.keep {val : Value} {s' : Shared} (q : Post w B S g σ s σ.fl v Q) (V : Inv w B S g σ s) (k : ∀ b o, s.heap.get? b = some o → s'.heap.get? b = some o) (r : Rep w S.fr S.inst g s'.heap v val)
    (hg : s'.gens = s.gens := by rfl) (ho : s'.os = s.os := by rfl) : Q val s' := q val s' (V.keep k hg ho) (.of_keep k) r
theorem Post.tk {val : Value} {t : Nat} (q : Post w B S g σ s σ.fl v Q) (V : Inv w B S g σ s) (r : Rep w S.fr S.inst g s.heap v val) : Q val { s with toks := t } :=
  q.keep V (fun _ _ e => e) r
theorem Post.now {val : Value} (q : Post w B S g σ s σ.fl v Q) (V : Inv w B S g σ s) (r : Rep w S.fr S.inst g s.heap v val) : Q val s :=
  q.keep V (fun _ _ e => e) r
theorem fresh_g (V : Inv w B S g σ s) {a : Addr} (h : s.heap.get? a = none) : g ≠ some a := fun e => by
  obtain ⟨_, _, _, _, _, vs, o, n, ho, _⟩ := V.gown a e; rw [h] at ho; cases ho
theorem fresh_apart (V : Inv w B S g σ s) {a : Addr} (h : s.heap.get? a = none) : Apart S.fr S.inst a := by
  refine ⟨fun m => ?_, fun x e => ?_⟩
  · obtain ⟨_, o, ho, _⟩ := V.frs.mem m
    rw [h] at ho; cases ho
  · obtain ⟨o, _, _, ho, _⟩ := (V.inst x a e).dcl
    rw [h] at ho; cases ho
theorem get_size (h : Heap) : h.get? h.objs.size = none := Heap.get?_none_of_le (Nat.le_refl _)
theorem strsOf_strs {I : Option (Addr × Addr)} {l : List Atom} {vs : List Value} (r : Reps I l vs) : ∀ {xs : List Str}, strsOf l = some xs → StrsAre vs xs := by
  induction r with
  | nil => intro xs e; cases e; exact .nil
  | @cons a v l vs ra _ ih =>
    intro xs e
    cases a with
    | str x =>
      obtain ⟨ys, hy, rfl⟩ := Option.map_eq_some_iff.mp e; obtain ⟨t, rfl⟩ := ra; exact .cons x t (ih hy)
    | _ => cases e
theorem str_beq (x y : Str) : (x.cps.toList == y.cps.toList) = (x == y) := by
  by_cases h : x = y
  · subst h; simp
  · rw [beq_eq_false_iff_ne.mpr h]
    refine beq_eq_false_iff_ne.mpr fun e => h ?_
    cases x; cases y
    simp only [Str.mk.injEq]; exact Array.toList_inj.mp e
theorem bin_ok {o : Bop} {x y : AV} {a b : Value} {op : Operator} (hop : op = match o with | .add => .Add | .sub => .Sub | .mod => .Mod | .shr => .RShift) (e : binV o x y = some v) (V : Inv w B S g σ s)
    (ra : Rep w S.fr S.inst g s.heap x a) (rb : Rep w S.fr S.inst g s.heap y b) (q : Post w B S g σ s σ.fl v Q) :
    wpAny (model pw w) S.A (binaryOp op a b) Q E s := by
  subst hop; unfold binV at e
  split at e
  · cases e; obtain ⟨t, rfl⟩ := ra; obtain ⟨u, rfl⟩ := rb; exact P.add_int (q.tk V ⟨_, rfl⟩)
  · cases e; obtain ⟨t, rfl⟩ := ra; obtain ⟨u, rfl⟩ := rb; exact P.sub_int (q.tk V ⟨_, rfl⟩)
  · split at e
    · rename_i hy; cases e; obtain ⟨t, rfl⟩ := ra; obtain ⟨u, rfl⟩ := rb; exact mod_int' (by omega) (q.tk V ⟨_, rfl⟩)
    · cases e
  · split at e
    · rename_i hy; cases e; obtain ⟨t, rfl⟩ := ra; obtain ⟨u, rfl⟩ := rb; subst hy; exact rshift_int (by omega) (q.tk V ⟨_, rfl⟩)
    · cases e
  · split at e
    · rename_i x y hy
      cases e; obtain ⟨t, rfl⟩ := ra; obtain ⟨u, rfl⟩ := rb
      refine P.add_str ?_
      split
      · rename_i h0
        have : x ++ y = y := by
          have h1 : x.cps.size = 0 := by simpa [Str.length] using h0
          cases x; cases y
          show Str.mk _ = _
          simp_all
        rw [this] at q; exact q.now V ⟨_, rfl⟩
      · split
        · rename_i h0
          have : x ++ y = x := by
            have h1 : y.cps.size = 0 := by simpa [Str.length] using h0
            cases x; cases y
            show Str.mk _ = _
            simp_all
          rw [this] at q; exact q.now V ⟨_, rfl⟩
        · refine ⟨?_, q.tk V ⟨_, rfl⟩⟩
          have : (x ++ y).length = x.length + y.length := by
            show (x.cps ++ y.cps).size = _
            simp [Str.length]
          rw [this]; exact small_le hy
    · cases e
  · split at e
    · rename_i x y hy
      cases e
      obtain ⟨a, vs, rfl, ha, hl, r1⟩ := ra; obtain ⟨b, ws, rfl, hb, hl2, r2⟩ := rb; obtain ⟨⟨cls, dd, data, sl⟩, ho, hc, n, hd⟩ := id hl; obtain ⟨⟨cls2, dd2, data2, sl2⟩, ho2, hc2, n2, hd2⟩ := id hl2; simp only at hc hd hc2 hd2; subst hc hd hc2 hd2; refine concat_meets ⟨_, ho, rfl⟩ ⟨_, ho2, rfl⟩ noFill_list_add seq_list_add PySem.F.slot_list_add PySem.F.entry_list_add (PySem.F.args_list_add_2 _ _)
        (list_addW a b vs ws n n2 dd dd2 sl sl2 (by rw [← Array.length_toList, ← Array.length_toList, r1.len, r2.len]; exact small_le hy)) ⟨ho, ho2, ?_⟩
      exact q.keep V (fun _ _ e => Heap.get?_push_of_some _ e) ⟨_, _, rfl, fresh_g V (get_size _), ⟨_, Heap.get?_push_size _ rfl, rfl, _, rfl⟩, by simpa using r1.append r2⟩
    · cases e
  · cases e
structure Sets (w : World) (B : Heap) : Prop where
  has : ∀ a l, setAt a = some l → ∃ o n, B.get? a = some o ∧ o.SetObjOf (strKind pw w) (fun x => l.contains x) n ∧ n < 4096
theorem in_ok (hs : Sets w B) {x : Str} {t : Tok} {y : AV} {b : Value} {r : Bool} (e : inV x y = some r) (V : Inv w B S g σ s)
    (rb : Rep w S.fr S.inst g s.heap y b) (q : Post w B S g σ s σ.fl (ab r) Q) :
    wpAny (model pw w) S.A (compareOp .In (.str x t) b) Q E s := by
  unfold inV at e
  split at e
  · rename_i l
    obtain ⟨a, vs, rfl, ha, hl, r1⟩ := rb; obtain ⟨xs, hx, rfl⟩ := Option.map_eq_some_iff.mp e
    have e1 : vs = vs.toList.toArray := by simp
    rw [e1] at hl; exact in_list_strs hl (strsOf_strs r1 hx) (q.now V rfl)
  · rename_i l
    cases e
    obtain ⟨a, rfl, hg, hap, hsm, f, hm, hf⟩ := rb; obtain ⟨u, hu⟩ := hf x; refine wpAny_in_of (knd := strKind pw w) (strKind_is pw w x t) hsm hm ?_; rw [hu, Option.isSome_map]; exact q.tk V rfl
  · rename_i a
    cases rb
    obtain ⟨l, hl, rfl⟩ := Option.map_eq_some_iff.mp e; obtain ⟨o, n, ho, hso, hn⟩ := hs.has a l hl; exact wpAny_inSet_of (isStrOf_self x t) rfl (hso.setOf (V.stays a o ho) hn) (q.tk V rfl)
  · cases e
theorem notin_ok (hs : Sets w B) {x : Str} {t : Tok} {y : AV} {b : Value} {r : Bool} (e : inV x y = some r) (V : Inv w B S g σ s)
    (rb : Rep w S.fr S.inst g s.heap y b) (q : Post w B S g σ s σ.fl (ab (!r)) Q) :
    wpAny (model pw w) S.A (compareOp .NotIn (.str x t) b) Q E s := by
  unfold inV at e
  split at e
  · rename_i l
    obtain ⟨a, vs, rfl, ha, hl, r1⟩ := rb; obtain ⟨xs, hx, rfl⟩ := Option.map_eq_some_iff.mp e
    have e1 : vs = vs.toList.toArray := by simp
    rw [e1] at hl; exact notin_list_strs hl (strsOf_strs r1 hx) (q.now V rfl)
  · rename_i l
    cases e
    obtain ⟨a, rfl, hg, hap, hsm, f, hm, hf⟩ := rb; obtain ⟨u, hu⟩ := hf x; refine wpAny_notIn_of (knd := strKind pw w) (strKind_is pw w x t) hsm hm ?_; rw [hu, Option.isSome_map]; exact q.tk V rfl
  · rename_i a
    cases rb
    obtain ⟨l, hl, rfl⟩ := Option.map_eq_some_iff.mp e; obtain ⟨o, n, ho, hso, hn⟩ := hs.has a l hl; exact wpAny_notInSet_of (isStrOf_self x t) rfl (hso.setOf (V.stays a o ho) hn) (q.tk V rfl)
  · cases e
theorem strsAre_get {vs : List Value} {xs : List Str} (h : StrsAre vs xs) : ∀ (j : Nat) (h1 : j < vs.length), ∃ (h2 : j < xs.length) (t : Tok), vs[j] = .str xs[j] t := by
  induction h with
  | nil => intro j h1; simp at h1
  | cons y t _ ih =>
    intro j h1
    cases j with
    | zero => exact ⟨by simp, t, rfl⟩
    | succ j =>
      obtain ⟨h2, u, e⟩ := ih j (by simpa using h1); exact ⟨by simpa using h2, u, by simpa using e⟩
theorem strsAre_len {vs : List Value} {xs : List Str} (h : StrsAre vs xs) : vs.length = xs.length := by
  induction h with
  | nil => rfl
  | cons _ _ _ ih => simp [ih]
def copOf : Cop → CmpOp
  | .lt => .Lt | .le => .LtE | .gt => .Gt | .ge => .GtE | .eq => .Eq | .ne => .NotEq | .isin => .In | .notin => .NotIn
theorem cmp_ok (hs : Sets w B) (hu : S.A.units < cLine) {o : Cop} {x y : AV} {a b : Value} {r : Bool} (e : cmpV o x y = some r) (V : Inv w B S g σ s)
    (ra : Rep w S.fr S.inst g s.heap x a) (rb : Rep w S.fr S.inst g s.heap y b) (q : Post w B S g σ s σ.fl (ab r) Q) :
    wpAny (model pw w) S.A (compareOp (copOf o) a b) Q E s := by
  unfold cmpV at e
  split at e
  · cases e; obtain ⟨t, rfl⟩ := ra; obtain ⟨u, rfl⟩ := rb; exact P.lt_int (q.now V rfl)
  · cases e; obtain ⟨t, rfl⟩ := ra; obtain ⟨u, rfl⟩ := rb; exact P.le_int (q.now V rfl)
  · cases e; obtain ⟨t, rfl⟩ := ra; obtain ⟨u, rfl⟩ := rb; exact P.gt_int (q.now V rfl)
  · cases e; obtain ⟨t, rfl⟩ := ra; obtain ⟨u, rfl⟩ := rb; exact P.ge_int (q.now V rfl)
  · cases e; obtain ⟨t, rfl⟩ := ra; obtain ⟨u, rfl⟩ := rb; exact P.eq_int (q.now V rfl)
  · cases e; obtain ⟨t, rfl⟩ := ra; obtain ⟨u, rfl⟩ := rb; exact P.ne_int (q.now V rfl)
  · cases e; obtain ⟨t, rfl⟩ := ra; obtain ⟨u, rfl⟩ := rb; exact P.eq_str (by rw [str_beq]; exact q.now V rfl)
  · cases e; obtain ⟨t, rfl⟩ := ra; obtain ⟨u, rfl⟩ := rb
    exact P.ne_str (by show Q (.bool (!(_ == _))) s; rw [str_beq]; exact q.now V rfl)
  · obtain ⟨a, vs, rfl, ha, hl, r1⟩ := ra
    obtain ⟨b, ws, rfl, hb, hl2, r2⟩ := rb
    split at e
    · rename_i xs ys hx hy
      split at e
      · rename_i h
        cases e
        subst h
        have A1 := strsOf_strs r1 hx
        have A2 := strsOf_strs r2 hy
        have l1 := strsAre_len A1
        have l2 := strsAre_len A2
        rw [Array.length_toList] at l1 l2; refine SeqAt.eq_listAt (e := fun _ => true) hl hl2 (l1.trans l2.symm) hu (fun j h1 h2 => ?_) ?_
        · obtain ⟨z, t, e1⟩ := strsAre_get A1 j (by simpa using h1)
          obtain ⟨z, u, e2⟩ := strsAre_get A2 j (by simpa using h2); rw [Array.getElem_toList] at e1 e2; rw [e1, e2]
          have := eqGives_str xs[j] xs[j] t u
          rw [beq_self_eq_true] at this; exact this.at _ _
        · have : (List.range vs.size).all (fun _ => true) = true := by simp
          rw [this]; exact q.now V rfl
      · cases e
    · cases e
  · obtain ⟨t, rfl⟩ := ra; exact in_ok hs e V rb q
  · obtain ⟨t, rfl⟩ := ra
    obtain ⟨r', hr, rfl⟩ := Option.map_eq_some_iff.mp e; exact notin_ok hs hr V rb q
  · cases e
theorem mod_class_ref {x : Str} {t : Tok} : RepA S.inst (.str x) (.str x t) := ⟨t, rfl⟩
theorem tail_any {value slice : Expr} {o i : Value} {T id : String} (hT : s.TypeIs o T) (hl : typeLookup (.type T) "__getitem__" = pure (some (.builtin id)))
    (h : wpAny (model pw w) S.A (getItem o i) Q E s) : wpAny (model pw w) S.A (subscriptTail value slice o i) Q E s := by
  unfold subscriptTail; refine wpAny_bind ?_; rw [getitemInPython_of_ne hT.not_modules]; refine wpAny_bind (wpAny_specialOf hT hl ?_)
  have fin : wpAny (model pw w) S.A (subscripted slice false o i) (fun r s₃ => wpAny (model pw w) S.A (letTemporaryGo value o r >>= fun _ => pure r) Q E s₃) E s := by
    have k : wpAny (model pw w) S.A (getItem o i) (fun r s₃ => wpAny (model pw w) S.A (letTemporaryGo value o r >>= fun _ => pure r) Q E s₃) E s :=
      wpAny_mono h (fun r s₃ h₃ => wpAny_bind (wpAny_letTemporaryGo (wpAny_pure h₃))) fun _ _ x => x
    unfold subscripted
    split
    · exact wpAny_operating k
    · rename_i hh; cases hh
    · exact wpAny_operating k
  first
    | exact wpAny_pure (wpAny_bind fin)
    | exact wpAny_bind (wpAny_pure (wpAny_bind fin))
    | exact wpAny_bind fin
structure Fixed (w : World) (B : Heap) : Prop where
  low : (Hfin w.params).StaysIn B
  glob : ∃ mg, B.Ns mainGlobals mg
  bu : ∃ mb, B.Ns builtinsNs mb ∧ ∀ x : Str, x ≠ "__name__" → mb x = bootBuiltins x
  lim : B.NoLimit
  sets : Sets w B
  amo : ∀ a l, amoList a = some l → B.IsList a (l.map Value.ref).toArray
theorem idx_ok (hf : Fixed w B) {x y : AV} {a b : Value} {value slice : Expr} (e : idxV x y = some v) (V : Inv w B S g σ s)
    (ra : Rep w S.fr S.inst g s.heap x a) (rb : Rep w S.fr S.inst g s.heap y b) (q : Post w B S g σ s σ.fl v Q) :
    wpAny (model pw w) S.A (subscriptTail value slice a b) Q E s := by
  unfold idxV at e
  split at e
  · rename_i x i
    obtain ⟨t, rfl⟩ := ra; obtain ⟨u, rfl⟩ := rb
    split at e
    · rename_i hc
      obtain ⟨c, hc', rfl⟩ := Option.map_eq_some_iff.mp e; simp only [Bool.and_eq_true, decide_eq_true_eq] at hc
      have hlt : i.toNat < x.cps.size := (Array.getElem?_eq_some_iff.mp hc').1
      have hsm := small_100 hc.1
      have hx : x.length = x.cps.size := rfl
      refine tail_any (typeIs_str _ _ _) F.slot_str_getitem.lookup (P.getItem_str ?_ ?_ (q.tk V ⟨_, rfl⟩))
      · rw [Bool.or_eq_false_iff]
        exact ⟨decide_eq_false (by omega), decide_eq_false (by omega)⟩
      · rw [idx_plain hc.2 (by rw [hx]; exact hlt), Option.bind_some, hc']
    · cases e
  · rename_i l i
    obtain ⟨a, vs, rfl, ha, hl, r1⟩ := ra; obtain ⟨u, rfl⟩ := rb
    split at e
    · rename_i hc
      obtain ⟨c, hc', rfl⟩ := Option.map_eq_some_iff.mp e; simp only [Bool.and_eq_true, decide_eq_true_eq] at hc; obtain ⟨z, hz, rz⟩ := r1.get hc'
      have hlt : i.toNat < l.length := (List.getElem?_eq_some_iff.mp hc').1
      have hsm := small_100 hc.1
      exact tail_any hl.typeIs slot_list_getitem.lookup (wpAny_getItem_list hl hc.2 (by omega) (by simpa using hz) (q.now V rz))
    · cases e
  · rename_i l i
    obtain ⟨a, vs, rfl, ha, ⟨o, n, ho, hcl, _, hd⟩, r1⟩ := ra; obtain ⟨u, rfl⟩ := rb
    have hl : s.heap.IsList a vs := ⟨o, ho, hcl, n, hd⟩
    split at e
    · rename_i hc
      obtain ⟨c, hc', rfl⟩ := Option.map_eq_some_iff.mp e; simp only [Bool.and_eq_true, decide_eq_true_eq] at hc; obtain ⟨z, hz, rz⟩ := r1.get hc'
      have hlt : i.toNat < l.length := (List.getElem?_eq_some_iff.mp hc').1
      have hsm := small_100 hc.1
      exact tail_any hl.typeIs slot_list_getitem.lookup (wpAny_getItem_list hl hc.2 (by omega) (by simpa using hz) (q.now V rz))
    · cases e
  · rename_i l x
    obtain ⟨y, hy, rfl⟩ := Option.map_eq_some_iff.mp e; obtain ⟨a, rfl, hg, hap, hsm, f, hm, hf⟩ := ra; obtain ⟨u, rfl⟩ := rb; obtain ⟨t, ht⟩ := hf x; rw [hy] at ht; exact tail_any hm.typeIs slot_dict_getitem.lookup (wpAny_getItem_of (strKind_is pw w x u) hm ht (q.tk V ⟨_, rfl⟩))
  · rename_i a i
    cases ra; obtain ⟨u, rfl⟩ := rb
    split at e
    · rename_i h0
      split at e
      · rename_i l hl
        obtain ⟨b, hb, rfl⟩ := Option.map_eq_some_iff.mp e
        have hlt : i.toNat < l.length := (List.getElem?_eq_some_iff.mp hb).1
        have hL := hf.amo a l hl
        have hL' : s.heap.IsList a (l.map Value.ref).toArray := let ⟨o, ho, r⟩ := hL; ⟨o, V.stays a o ho, r⟩
        have hsm : l.length ≤ 11 := by
          unfold amoList at hl
          repeat' (split at hl)
          all_goals (first | (cases hl; decide) | cases hl)
        have h0 : 0 ≤ i := of_decide_eq_true h0
        exact tail_any hL'.typeIs slot_list_getitem.lookup (wpAny_getItem_list hL' h0 (by omega) (by simp [hb]) (q.now V rfl))
      · cases e
    · cases e
  · cases e
end
end Mine
namespace Mine
structure Cx where
  names : List Str
  kinds : List (Str × NameKind)
def fnIdx : List Str := [.ofString "__init__", .ofString "set_current", .ofString "get_current", .ofString "in_grouping", .ofString "go_in_grouping", .ofString "go_out_grouping", .ofString "out_grouping_b", .ofString "eq_s_b", .ofString "find_among", .ofString "find_among_b", .ofString "replace_s", .ofString "slice_from", .ofString "slice_del", .ofString "stemWord", .ofString "stemWords", .ofString "r_prelude", .ofString "r_mark_regions", .ofString "r_postlude", .ofString "r_R1", .ofString "r_R2", .ofString "r_undouble", .ofString "r_e_ending", .ofString "r_en_ending", .ofString "r_standard_suffix", .ofString "_stem", .ofString "_law_pieces", .ofString "_law_bare", .ofString "_law_word", .ofString "_law_marked", .ofString "_law_regions", .ofString "_law_ending", .ofString "_law_shut", .ofString "_law_single", .ofString "_law_less_en", .ofString "_law_less_e", .ofString "_law_stem"]
def isVar (c : Cx) (i : Nat) : Expr → Bool
  | .Name x _ => c.names[i]? == some x && !(x == ("__debug__" : Str))
  | _ => false
def isGlob (c : Cx) (x : Str) : Expr → Bool
  | .Name y _ => x == y && c.kinds.lookup y == some .globalImplicit && !(y == ("__debug__" : Str))
  | _ => false
def isBop : Bop → Operator → Bool
  | .add, .Add => true
  | .sub, .Sub => true
  | .mod, .Mod => true
  | .shr, .RShift => true
  | _, _ => false
def notCall : Expr → Bool
  | .Call .. => false
  | _ => true
def notSlice : Expr → Bool
  | .Slice .. => false
  | _ => true
def isPairs : List (Str × Str) → List (Option Expr) → List Expr → Bool
  | [], [], [] => true
  | (x, y) :: l, some (.Constant (.str k) _ _) :: ks, .Constant (.str v) _ _ :: vs => x == k && y == v && isPairs l ks vs
  | _, _, _ => false
def notStar : Expr → Bool
  | .Starred .. => false
  | _ => true
def notSet : Expr → Bool
  | .Set .. => false
  | _ => true
def sName (s : String) : Str := .ofString s
def compCx (c : Cx) (t : Str) (caps : List Nat) (sc : Scope) : Cx :=
  ⟨t :: caps.map (fun i => c.names.getD i Str.empty), sc.names.map fun (n, k) => if (k == .free && c.kinds.lookup n == some .cell) then (n, .cell) else (n, k)⟩
def scOk (c : Cx) (t : Str) (caps : List Nat) (sc : Scope) : Bool :=
  sc.names.all (fun x => x.2 != .cell && (x.2 != .local || sc.names.lookup x.1 == some .local)) &&
  (sc.names.all fun x => x.2 != .free || caps.any fun i => c.names[i]? == some x.1 && c.kinds.lookup x.1 == some .cell) &&
  caps.all (fun i => (compCx c t caps sc).kinds.lookup (c.names.getD i Str.empty) == some .cell && c.kinds.lookup (c.names.getD i Str.empty) == some .cell && decide (i < c.names.length)) && decide (caps.length ≤ 1) && decide ((compCx c t caps sc).names.Nodup)
mutual
def isE (c : Cx) : CE → Expr → Bool
  | .var i, e => isVar c i e
  | .int n, .Constant (.int m) _ _ => n == m
  | .neg n, .UnaryOp .USub (.Constant (.int m) _ _) _ => n == m
  | .str x, .Constant (.str y) _ _ => x == y
  | .bool a, .Constant (.bool b) _ _ => a == b
  | .glob x, e => isGlob c x e && (x == sName "_law_signs" || x == sName "_law_vowels")
  | .fld i, .Attribute e a _ => isVar c 0 e && fnames[i]? == some a
  | .cattr x, .Attribute e a _ => isGlob c (sName "DutchPorterStemmer") e && x == a
  | .amo e x, .Attribute ex a _ => isE c e ex && notCall ex && x == a
  | .bin o a b, .BinOp l op r _ => isBop o op && isE c a l && isE c b r
  | .cmp o a b, .Compare l [op] [r] _ => op == copOf o && isE c a l && isE c b r && !behindInMarks op r
  | .not a, .UnaryOp .Not x _ => isE c a x
  | .and l, .BoolOp .And vs _ => isA c l vs
  | .or l, .BoolOp .Or vs _ => isA c l vs
  | .ite t a b, .IfExp x y z _ => isE c t x && isE c a y && isE c b z
  | .idx a b, .Subscript x y _ => isE c a x && isE c b y && notSlice y
  | .sliceTo a h, .Subscript x (.Slice none (some y) none _) _ => isE c a x && isE c h y
  | .sliceFrom a l, .Subscript x (.Slice (some y) none none _) _ => isE c a x && isE c l y
  | .slice a l h, .Subscript x (.Slice (some y) (some z) none _) _ => isE c a x && isE c l y && isE c h z
  | .len a, .Call f [x] [] _ => isGlob c (sName "len") f && isE c a x
  | .ord a, .Call f [x] [] _ => isGlob c (sName "ord") f && isE c a x
  | .min a b, .Call f [x, y] [] _ => isGlob c (sName "min") f && isE c a x && isE c b y
  | .max a b, .Call f [x, y] [] _ => isGlob c (sName "max") f && isE c a x && isE c b y
  | .range l, .Call f xs [] _ => isGlob c (sName "range") f && isA c l xs
  | .endswith a b, .Call (.Attribute x n p) [y] [] q => isE c a x && notCall x && n == sName "endswith" && isE c b y && p.endLine == q.line
  | .join a, .Call (.Attribute (.Constant (.str z) _ _) n p) [y] [] q => z == Str.empty && n == sName "join" && isE c a y && p.endLine == q.line
  | .list l, .List xs _ => isA c l xs
  | .tup l, .Tuple xs _ _ => isA c l xs
  | .dict l, .Dict ks vs _ => isPairs l ks vs && !l.isEmpty && decide (l.length ≤ 15) && decide ((l.map (·.1)).Nodup)
  | .callG f l, .Call e xs [] _ => (match fnIdx[f]? with | some n => isGlob c n e | none => false) && isA c l xs && decide (25 ≤ f ∧ f < 36)
  | .callM i f l, .Call (.Attribute e n p) xs [] q => isVar c i e && fnIdx[f]? == some n && isA c l xs && p.endLine == q.line && decide (xs.length < 29) && decide (f < 25)
  | .comp elt src caps, .ListComp ex [⟨.Name t _, it, [], 0⟩] sc _ => isE c src it && isE (compCx c t caps sc) elt ex && sc.kind == .function && sc.names.lookup t == some .local && notSet it && scOk c t caps sc
  | .compIf elt src cond caps, .ListComp ex [⟨.Name t _, it, [cd], 0⟩] sc _ => isE c src it && isE (compCx c t caps sc) elt ex && isE (compCx c t caps sc) cond cd && sc.kind == .function && sc.names.lookup t == some .local && notSet it && scOk c t caps sc
  | _, _ => false
def isA (c : Cx) : CA → List Expr → Bool
  | .nil, [] => true
  | .cons e r, x :: xs => isE c e x && isA c r xs && notStar x
  | _, _ => false
end
def labName : Nat → Str
  | 0 => sName "lab0"
  | 1 => sName "lab1"
  | 2 => sName "lab2"
  | _ => sName "lab3"
def isLoc (c : Cx) (i : Nat) : Expr → Bool
  | .Name x _ => c.names[i]? == some x && c.kinds.lookup x == some .local
  | _ => false
def isComp : Expr → Bool
  | .ListComp .. => true
  | _ => false
mutual
def isS (c : Cx) : CS → Stmt → Bool
  | .assign i e, .Assign [t] v p => isLoc c i t && isE c e v && (!isComp v || (match v with
      | .ListComp _ _ sc q => t.pos.line == q.line && !(sc.names.any fun x => (match t with | .Name y _ => x.1 == y | _ => true) && (x.2 == .local || x.2 == .cell))
      | _ => false))
  | .assign2 i j e, .Assign [.Tuple [a, b] _ _] v _ => isLoc c i a && isLoc c j b && isE c e v && !isComp v && (match v with | .Call .. => true | _ => false)
  | .setf i e, .Assign [.Attribute o a _] v _ => isVar c 0 o && fnames[i]? == some a && isE c e v && !isComp v
  | .augf i o e, .AugAssign (.Attribute x a _) op v _ => isVar c 0 x && fnames[i]? == some a && isBop o op && isE c e v && (o == .add || o == .sub)
  | .aug i o e, .AugAssign (.Name x p) op v _ => isLoc c i (.Name x p) && isBop o op && isE c e v && (o == .add || o == .sub)
  | .expr e, .Expr v _ => isE c e v && (match v with | .Call .. => true | _ => false)
  | .append i e, .Expr (.Call (.Attribute o n p) [v] [] q) _ => isVar c i o && n == sName "append" && isE c e v && p.endLine == q.line
  | .newOwn i, .Assign [t] (.List [] _) _ => isLoc c i t
  | .ite t a b, .If x y z _ => isE c t x && isB c a y && isB c b z
  | .while t b, .While x y [] _ => isE c t x && isB c b y
  | .for i e b, .For t x y [] _ => isLoc c i t && isE c e x && isB c b y && notSet x
  | .try k b, .Try y [.ExceptHandler (some (.Name x _)) none [.Pass _] _] [] [] _ => x == labName k && c.kinds.lookup x == some .globalImplicit && isB c b y
  | .raise k, .Raise (some (.Call (.Name x _) [] [] _)) none _ => x == labName k && c.kinds.lookup x == some .globalImplicit
  | .ret e, .Return (some x) _ => isE c e x
  | .pass, .Pass _ => true
  | .brk, .Break _ => true
  | .cont, .Continue _ => true
  | .assert e, .Assert x none _ => isE c e x
  | _, _ => false
def isB (c : Cx) : CB → List Stmt → Bool
  | .nil, [] => true
  | .cons s r, x :: xs => isS c s x && isB c r xs
  | _, _ => false
end
end Mine
namespace Mine
def fnAddr : List Addr := [35, 42, 49, 63, 70, 98, 105, 126, 133, 140, 147, 154, 161, 189, 194, 239, 246, 253, 260, 267, 274, 281, 288, 295, 302, 468, 475, 483, 488, 493, 500, 507, 514, 521, 528, 533]
def paramOk (F : Fn) (a : Arguments) : Bool := a.args.map (·.arg) == F.names.take F.np && a.posonlyargs.isEmpty && a.kwonlyargs.isEmpty && a.vararg.isNone && a.kwarg.isNone && a.defaults.isEmpty && decide (F.np ≤ F.names.length) && decide F.names.Nodup
def fnOk (K : Frag) (i : Nat) : Bool := match fnIdx[i]?, fnAddr[i]?, fns[i]? with
  | some n, some a, some F => (match K.lookup a with
    | some ⟨_, _, .func fd, _⟩ => fd.name == n && paramOk F fd.params && (match fd.body with
      | .stmts b => isB ⟨F.names, fd.scope.names⟩ F.body b
      | _ => false)
    | _ => false)
  | _, _, _ => false
theorem fnOk_0 (P : Params) : fnOk (KK P) 0 = true := by kernel_rfl!
theorem fnOk_1 (P : Params) : fnOk (KK P) 1 = true := by kernel_rfl!
theorem fnOk_2 (P : Params) : fnOk (KK P) 2 = true := by kernel_rfl!
theorem fnOk_3 (P : Params) : fnOk (KK P) 3 = true := by kernel_rfl!
theorem fnOk_4 (P : Params) : fnOk (KK P) 4 = true := by kernel_rfl!
theorem fnOk_5 (P : Params) : fnOk (KK P) 5 = true := by kernel_rfl!
theorem fnOk_6 (P : Params) : fnOk (KK P) 6 = true := by kernel_rfl!
theorem fnOk_7 (P : Params) : fnOk (KK P) 7 = true := by kernel_rfl!
theorem fnOk_8 (P : Params) : fnOk (KK P) 8 = true := by kernel_rfl!
theorem fnOk_9 (P : Params) : fnOk (KK P) 9 = true := by kernel_rfl!
theorem fnOk_10 (P : Params) : fnOk (KK P) 10 = true := by kernel_rfl!
theorem fnOk_11 (P : Params) : fnOk (KK P) 11 = true := by kernel_rfl!
theorem fnOk_12 (P : Params) : fnOk (KK P) 12 = true := by kernel_rfl!
theorem fnOk_13 (P : Params) : fnOk (KK P) 13 = true := by kernel_rfl!
theorem fnOk_14 (P : Params) : fnOk (KK P) 14 = true := by kernel_rfl!
theorem fnOk_15 (P : Params) : fnOk (KK P) 15 = true := by kernel_rfl!
theorem fnOk_16 (P : Params) : fnOk (KK P) 16 = true := by kernel_rfl!
theorem fnOk_17 (P : Params) : fnOk (KK P) 17 = true := by kernel_rfl!
theorem fnOk_18 (P : Params) : fnOk (KK P) 18 = true := by kernel_rfl!
theorem fnOk_19 (P : Params) : fnOk (KK P) 19 = true := by kernel_rfl!
theorem fnOk_20 (P : Params) : fnOk (KK P) 20 = true := by kernel_rfl!
theorem fnOk_21 (P : Params) : fnOk (KK P) 21 = true := by kernel_rfl!
theorem fnOk_22 (P : Params) : fnOk (KK P) 22 = true := by kernel_rfl!
theorem fnOk_23 (P : Params) : fnOk (KK P) 23 = true := by kernel_rfl!
theorem fnOk_24 (P : Params) : fnOk (KK P) 24 = true := by kernel_rfl!
theorem fnOk_25 (P : Params) : fnOk (KK P) 25 = true := by kernel_rfl!
theorem fnOk_26 (P : Params) : fnOk (KK P) 26 = true := by kernel_rfl!
theorem fnOk_27 (P : Params) : fnOk (KK P) 27 = true := by kernel_rfl!
theorem fnOk_28 (P : Params) : fnOk (KK P) 28 = true := by kernel_rfl!
theorem fnOk_29 (P : Params) : fnOk (KK P) 29 = true := by kernel_rfl!
theorem fnOk_30 (P : Params) : fnOk (KK P) 30 = true := by kernel_rfl!
theorem fnOk_31 (P : Params) : fnOk (KK P) 31 = true := by kernel_rfl!
theorem fnOk_32 (P : Params) : fnOk (KK P) 32 = true := by kernel_rfl!
theorem fnOk_33 (P : Params) : fnOk (KK P) 33 = true := by kernel_rfl!
theorem fnOk_34 (P : Params) : fnOk (KK P) 34 = true := by kernel_rfl!
theorem fnOk_35 (P : Params) : fnOk (KK P) 35 = true := by kernel_rfl!
end Mine
namespace Mine
theorem invE_var {c : Cx} {i} {e : Expr} (h : isE c (.var i) e = true) : (isVar c i e) = true := by
  unfold isE at h; exact h
theorem invE_int {c : Cx} {n} {X : Expr} (hh : isE c (.int n) X = true) : ∃ m u1 u2, X = .Constant (.int m) u1 u2 ∧ (n == m) = true := by
  unfold isE at hh; split at hh
  all_goals first | (cases hh; done) | (rename_i he; cases he; done) | skip
  rename_i he; cases he; exact ⟨_, _, _, rfl, hh⟩
theorem invE_neg {c : Cx} {n} {X : Expr} (hh : isE c (.neg n) X = true) : ∃ m u1 u2 u3, X = .UnaryOp .USub (.Constant (.int m) u1 u2) u3 ∧ (n == m) = true := by
  unfold isE at hh; split at hh
  all_goals first | (cases hh; done) | (rename_i he; cases he; done) | skip
  rename_i he; cases he; exact ⟨_, _, _, _, rfl, hh⟩
theorem invE_str {c : Cx} {x} {X : Expr} (hh : isE c (.str x) X = true) : ∃ y u1 u2, X = .Constant (.str y) u1 u2 ∧ (x == y) = true := by
  unfold isE at hh; split at hh
  all_goals first | (cases hh; done) | (rename_i he; cases he; done) | skip
  rename_i he; cases he; exact ⟨_, _, _, rfl, hh⟩
theorem invE_bool {c : Cx} {a} {X : Expr} (hh : isE c (.bool a) X = true) : ∃ b u1 u2, X = .Constant (.bool b) u1 u2 ∧ (a == b) = true := by
  unfold isE at hh; split at hh
  all_goals first | (cases hh; done) | (rename_i he; cases he; done) | skip
  rename_i he; cases he; exact ⟨_, _, _, rfl, hh⟩
theorem invE_glob {c : Cx} {x} {e : Expr} (h : isE c (.glob x) e = true) : (isGlob c x e && (x == sName "_law_signs" || x == sName "_law_vowels")) = true := by
  unfold isE at h; exact h
theorem invE_fld {c : Cx} {i} {X : Expr} (hh : isE c (.fld i) X = true) : ∃ e a u1, X = .Attribute e a u1 ∧ (isVar c 0 e && fnames[i]? == some a) = true := by
  unfold isE at hh; split at hh
  all_goals first | (cases hh; done) | (rename_i he; cases he; done) | skip
  rename_i he; cases he; exact ⟨_, _, _, rfl, hh⟩
theorem invE_cattr {c : Cx} {x} {X : Expr} (hh : isE c (.cattr x) X = true) : ∃ e a u1, X = .Attribute e a u1 ∧ (isGlob c (sName "DutchPorterStemmer") e && x == a) = true := by
  unfold isE at hh; split at hh
  all_goals first | (cases hh; done) | (rename_i he; cases he; done) | skip
  rename_i he; cases he; exact ⟨_, _, _, rfl, hh⟩
theorem invE_amo {c : Cx} {e} {x} {X : Expr} (hh : isE c (.amo e x) X = true) : ∃ ex a u1, X = .Attribute ex a u1 ∧ (isE c e ex && notCall ex && x == a) = true := by
  unfold isE at hh; split at hh
  all_goals first | (cases hh; done) | (rename_i he; cases he; done) | skip
  rename_i he; cases he; exact ⟨_, _, _, rfl, hh⟩
theorem invE_bin {c : Cx} {o} {a} {b} {X : Expr} (hh : isE c (.bin o a b) X = true) : ∃ l op r u1, X = .BinOp l op r u1 ∧ (isBop o op && isE c a l && isE c b r) = true := by
  unfold isE at hh; split at hh
  all_goals first | (cases hh; done) | (rename_i he; cases he; done) | skip
  rename_i he; cases he; exact ⟨_, _, _, _, rfl, hh⟩
theorem invE_cmp {c : Cx} {o} {a} {b} {X : Expr} (hh : isE c (.cmp o a b) X = true) : ∃ l op r u1, X = .Compare l [op] [r] u1 ∧ (op == copOf o && isE c a l && isE c b r && !behindInMarks op r) = true := by
  unfold isE at hh; split at hh
  all_goals first | (cases hh; done) | (rename_i he; cases he; done) | skip
  rename_i he; cases he; exact ⟨_, _, _, _, rfl, hh⟩
theorem invE_not {c : Cx} {a} {X : Expr} (hh : isE c (.not a) X = true) : ∃ x u1, X = .UnaryOp .Not x u1 ∧ (isE c a x) = true := by
  unfold isE at hh; split at hh
  all_goals first | (cases hh; done) | (rename_i he; cases he; done) | skip
  rename_i he; cases he; exact ⟨_, _, rfl, hh⟩
theorem invE_and {c : Cx} {l} {X : Expr} (hh : isE c (.and l) X = true) : ∃ vs u1, X = .BoolOp .And vs u1 ∧ (isA c l vs) = true := by
  unfold isE at hh; split at hh
  all_goals first | (cases hh; done) | (rename_i he; cases he; done) | skip
  rename_i he; cases he; exact ⟨_, _, rfl, hh⟩
theorem invE_or {c : Cx} {l} {X : Expr} (hh : isE c (.or l) X = true) : ∃ vs u1, X = .BoolOp .Or vs u1 ∧ (isA c l vs) = true := by
  unfold isE at hh; split at hh
  all_goals first | (cases hh; done) | (rename_i he; cases he; done) | skip
  rename_i he; cases he; exact ⟨_, _, rfl, hh⟩
theorem invE_ite {c : Cx} {t} {a} {b} {X : Expr} (hh : isE c (.ite t a b) X = true) : ∃ x y z u1, X = .IfExp x y z u1 ∧ (isE c t x && isE c a y && isE c b z) = true := by
  unfold isE at hh; split at hh
  all_goals first | (cases hh; done) | (rename_i he; cases he; done) | skip
  rename_i he; cases he; exact ⟨_, _, _, _, rfl, hh⟩
theorem invE_idx {c : Cx} {a} {b} {X : Expr} (hh : isE c (.idx a b) X = true) : ∃ x y u1, X = .Subscript x y u1 ∧ (isE c a x && isE c b y && notSlice y) = true := by
  unfold isE at hh; split at hh
  all_goals first | (cases hh; done) | (rename_i he; cases he; done) | skip
  rename_i he; cases he; exact ⟨_, _, _, rfl, hh⟩
theorem invE_sliceTo {c : Cx} {a} {h} {X : Expr} (hh : isE c (.sliceTo a h) X = true) : ∃ x y u1 u2, X = .Subscript x (.Slice none (some y) none u1) u2 ∧ (isE c a x && isE c h y) = true := by
  unfold isE at hh; split at hh
  all_goals first | (cases hh; done) | (rename_i he; cases he; done) | skip
  rename_i he; cases he; exact ⟨_, _, _, _, rfl, hh⟩
theorem invE_sliceFrom {c : Cx} {a} {l} {X : Expr} (hh : isE c (.sliceFrom a l) X = true) : ∃ x y u1 u2, X = .Subscript x (.Slice (some y) none none u1) u2 ∧ (isE c a x && isE c l y) = true := by
  unfold isE at hh; split at hh
  all_goals first | (cases hh; done) | (rename_i he; cases he; done) | skip
  rename_i he; cases he; exact ⟨_, _, _, _, rfl, hh⟩
theorem invE_slice {c : Cx} {a} {l} {h} {X : Expr} (hh : isE c (.slice a l h) X = true) : ∃ x y z u1 u2, X = .Subscript x (.Slice (some y) (some z) none u1) u2 ∧ (isE c a x && isE c l y && isE c h z) = true := by
  unfold isE at hh; split at hh
  all_goals first | (cases hh; done) | (rename_i he; cases he; done) | skip
  rename_i he; cases he; exact ⟨_, _, _, _, _, rfl, hh⟩
theorem invE_len {c : Cx} {a} {X : Expr} (hh : isE c (.len a) X = true) : ∃ f x u1, X = .Call f [x] [] u1 ∧ (isGlob c (sName "len") f && isE c a x) = true := by
  unfold isE at hh; split at hh
  all_goals first | (cases hh; done) | (rename_i he; cases he; done) | skip
  rename_i he; cases he; exact ⟨_, _, _, rfl, hh⟩
theorem invE_ord {c : Cx} {a} {X : Expr} (hh : isE c (.ord a) X = true) : ∃ f x u1, X = .Call f [x] [] u1 ∧ (isGlob c (sName "ord") f && isE c a x) = true := by
  unfold isE at hh; split at hh
  all_goals first | (cases hh; done) | (rename_i he; cases he; done) | skip
  rename_i he; cases he; exact ⟨_, _, _, rfl, hh⟩
theorem invE_min {c : Cx} {a} {b} {X : Expr} (hh : isE c (.min a b) X = true) : ∃ f x y u1, X = .Call f [x, y] [] u1 ∧ (isGlob c (sName "min") f && isE c a x && isE c b y) = true := by
  unfold isE at hh; split at hh
  all_goals first | (cases hh; done) | (rename_i he; cases he; done) | skip
  rename_i he; cases he; exact ⟨_, _, _, _, rfl, hh⟩
theorem invE_max {c : Cx} {a} {b} {X : Expr} (hh : isE c (.max a b) X = true) : ∃ f x y u1, X = .Call f [x, y] [] u1 ∧ (isGlob c (sName "max") f && isE c a x && isE c b y) = true := by
  unfold isE at hh; split at hh
  all_goals first | (cases hh; done) | (rename_i he; cases he; done) | skip
  rename_i he; cases he; exact ⟨_, _, _, _, rfl, hh⟩
theorem invE_range {c : Cx} {l} {X : Expr} (hh : isE c (.range l) X = true) : ∃ f xs u1, X = .Call f xs [] u1 ∧ (isGlob c (sName "range") f && isA c l xs) = true := by
  unfold isE at hh; split at hh
  all_goals first | (cases hh; done) | (rename_i he; cases he; done) | skip
  rename_i he; cases he; exact ⟨_, _, _, rfl, hh⟩
theorem invE_endswith {c : Cx} {a} {b} {X : Expr} (hh : isE c (.endswith a b) X = true) : ∃ x n p y q, X = .Call (.Attribute x n p) [y] [] q ∧ (isE c a x && notCall x && n == sName "endswith" && isE c b y && p.endLine == q.line) = true := by
  unfold isE at hh; split at hh
  all_goals first | (cases hh; done) | (rename_i he; cases he; done) | skip
  rename_i he; cases he; exact ⟨_, _, _, _, _, rfl, hh⟩
theorem invE_join {c : Cx} {a} {X : Expr} (hh : isE c (.join a) X = true) : ∃ z u1 u2 n p y q, X = .Call (.Attribute (.Constant (.str z) u1 u2) n p) [y] [] q ∧ (z == Str.empty && n == sName "join" && isE c a y && p.endLine == q.line) = true := by
  unfold isE at hh; split at hh
  all_goals first | (cases hh; done) | (rename_i he; cases he; done) | skip
  rename_i he; cases he; exact ⟨_, _, _, _, _, _, _, rfl, hh⟩
theorem invE_list {c : Cx} {l} {X : Expr} (hh : isE c (.list l) X = true) : ∃ xs u1, X = .List xs u1 ∧ (isA c l xs) = true := by
  unfold isE at hh; split at hh
  all_goals first | (cases hh; done) | (rename_i he; cases he; done) | skip
  rename_i he; cases he; exact ⟨_, _, rfl, hh⟩
theorem invE_tup {c : Cx} {l} {X : Expr} (hh : isE c (.tup l) X = true) : ∃ xs u1 u2, X = .Tuple xs u1 u2 ∧ (isA c l xs) = true := by
  unfold isE at hh; split at hh
  all_goals first | (cases hh; done) | (rename_i he; cases he; done) | skip
  rename_i he; cases he; exact ⟨_, _, _, rfl, hh⟩
theorem invE_dict {c : Cx} {l} {X : Expr} (hh : isE c (.dict l) X = true) : ∃ ks vs u1, X = .Dict ks vs u1 ∧ (isPairs l ks vs && !l.isEmpty && decide (l.length ≤ 15) && decide ((l.map (·.1)).Nodup)) = true := by
  unfold isE at hh; split at hh
  all_goals first | (cases hh; done) | (rename_i he; cases he; done) | skip
  rename_i he; cases he; exact ⟨_, _, _, rfl, hh⟩
theorem invE_callG {c : Cx} {f} {l} {X : Expr} (hh : isE c (.callG f l) X = true) : ∃ e xs u1, X = .Call e xs [] u1 ∧ ((match fnIdx[f]? with | some n => isGlob c n e | none => false) && isA c l xs && decide (25 ≤ f ∧ f < 36)) = true := by
  unfold isE at hh; split at hh
  all_goals first | (cases hh; done) | (rename_i he; cases he; done) | skip
  rename_i he; cases he; exact ⟨_, _, _, rfl, hh⟩
theorem invE_callM {c : Cx} {i} {f} {l} {X : Expr} (hh : isE c (.callM i f l) X = true) : ∃ e n p xs q, X = .Call (.Attribute e n p) xs [] q ∧ (isVar c i e && fnIdx[f]? == some n && isA c l xs && p.endLine == q.line && decide (xs.length < 29) && decide (f < 25)) = true := by
  unfold isE at hh; split at hh
  all_goals first | (cases hh; done) | (rename_i he; cases he; done) | skip
  rename_i he; cases he; exact ⟨_, _, _, _, _, rfl, hh⟩
theorem invE_comp {c : Cx} {elt} {src} {caps} {X : Expr} (hh : isE c (.comp elt src caps) X = true) : ∃ ex t u1 it sc u2, X = .ListComp ex [⟨.Name t u1, it, [], 0⟩] sc u2 ∧ (isE c src it && isE (compCx c t caps sc) elt ex && sc.kind == .function && sc.names.lookup t == some .local && notSet it && scOk c t caps sc) = true := by
  unfold isE at hh; split at hh
  all_goals first | (cases hh; done) | (rename_i he; cases he; done) | skip
  rename_i he; cases he; exact ⟨_, _, _, _, _, _, rfl, hh⟩
theorem invE_compIf {c : Cx} {elt} {src} {cond} {caps} {X : Expr} (hh : isE c (.compIf elt src cond caps) X = true) : ∃ ex t u1 it cd sc u2, X = .ListComp ex [⟨.Name t u1, it, [cd], 0⟩] sc u2 ∧ (isE c src it && isE (compCx c t caps sc) elt ex && isE (compCx c t caps sc) cond cd && sc.kind == .function && sc.names.lookup t == some .local && notSet it && scOk c t caps sc) = true := by
  unfold isE at hh; split at hh
  all_goals first | (cases hh; done) | (rename_i he; cases he; done) | skip
  rename_i he; cases he; exact ⟨_, _, _, _, _, _, _, rfl, hh⟩
theorem invS_assign {c : Cx} {i} {e} {X : Stmt} (hh : isS c (.assign i e) X = true) : ∃ t v p, X = .Assign [t] v p ∧ (isLoc c i t && isE c e v && (!isComp v || (match v with | .ListComp _ _ sc q => t.pos.line == q.line && !(sc.names.any fun x => (match t with | .Name y _ => x.1 == y | _ => true) && (x.2 == .local || x.2 == .cell)) | _ => false))) = true := by
  unfold isS at hh; split at hh
  all_goals first | (cases hh; done) | (rename_i he; cases he; done) | skip
  rename_i he; cases he; exact ⟨_, _, _, rfl, hh⟩
theorem invS_assign2 {c : Cx} {i} {j} {e} {X : Stmt} (hh : isS c (.assign2 i j e) X = true) : ∃ a b u1 u2 v u3, X = .Assign [.Tuple [a, b] u1 u2] v u3 ∧ (isLoc c i a && isLoc c j b && isE c e v && !isComp v && (match v with | .Call .. => true | _ => false)) = true := by
  unfold isS at hh; split at hh
  all_goals first | (cases hh; done) | (rename_i he; cases he; done) | skip
  rename_i he; cases he; exact ⟨_, _, _, _, _, _, rfl, hh⟩
theorem invS_setf {c : Cx} {i} {e} {X : Stmt} (hh : isS c (.setf i e) X = true) : ∃ o a u1 v u2, X = .Assign [.Attribute o a u1] v u2 ∧ (isVar c 0 o && fnames[i]? == some a && isE c e v && !isComp v) = true := by
  unfold isS at hh; split at hh
  all_goals first | (cases hh; done) | (rename_i he; cases he; done) | skip
  rename_i he; cases he; exact ⟨_, _, _, _, _, rfl, hh⟩
theorem invS_augf {c : Cx} {i} {o} {e} {X : Stmt} (hh : isS c (.augf i o e) X = true) : ∃ x a u1 op v u2, X = .AugAssign (.Attribute x a u1) op v u2 ∧ (isVar c 0 x && fnames[i]? == some a && isBop o op && isE c e v && (o == .add || o == .sub)) = true := by
  unfold isS at hh; split at hh
  all_goals first | (cases hh; done) | (rename_i he; cases he; done) | skip
  rename_i he; cases he; exact ⟨_, _, _, _, _, _, rfl, hh⟩
theorem invS_aug {c : Cx} {i} {o} {e} {X : Stmt} (hh : isS c (.aug i o e) X = true) : ∃ x p op v u1, X = .AugAssign (.Name x p) op v u1 ∧ (isLoc c i (.Name x p) && isBop o op && isE c e v && (o == .add || o == .sub)) = true := by
  unfold isS at hh; split at hh
  all_goals first | (cases hh; done) | (rename_i he; cases he; done) | skip
  rename_i he; cases he; exact ⟨_, _, _, _, _, rfl, hh⟩
theorem invS_expr {c : Cx} {e} {X : Stmt} (hh : isS c (.expr e) X = true) : ∃ v u1, X = .Expr v u1 ∧ (isE c e v && (match v with | .Call .. => true | _ => false)) = true := by
  unfold isS at hh; split at hh
  all_goals first | (cases hh; done) | (rename_i he; cases he; done) | skip
  rename_i he; cases he; exact ⟨_, _, rfl, hh⟩
theorem invS_append {c : Cx} {i} {e} {X : Stmt} (hh : isS c (.append i e) X = true) : ∃ o n p v q u1, X = .Expr (.Call (.Attribute o n p) [v] [] q) u1 ∧ (isVar c i o && n == sName "append" && isE c e v && p.endLine == q.line) = true := by
  unfold isS at hh; split at hh
  all_goals first | (cases hh; done) | (rename_i he; cases he; done) | skip
  rename_i he; cases he; exact ⟨_, _, _, _, _, _, rfl, hh⟩
theorem invS_newOwn {c : Cx} {i} {X : Stmt} (hh : isS c (.newOwn i) X = true) : ∃ t u1 u2, X = .Assign [t] (.List [] u1) u2 ∧ (isLoc c i t) = true := by
  unfold isS at hh; split at hh
  all_goals first | (cases hh; done) | (rename_i he; cases he; done) | skip
  rename_i he; cases he; exact ⟨_, _, _, rfl, hh⟩
theorem invS_ite {c : Cx} {t} {a} {b} {X : Stmt} (hh : isS c (.ite t a b) X = true) : ∃ x y z u1, X = .If x y z u1 ∧ (isE c t x && isB c a y && isB c b z) = true := by
  unfold isS at hh; split at hh
  all_goals first | (cases hh; done) | (rename_i he; cases he; done) | skip
  rename_i he; cases he; exact ⟨_, _, _, _, rfl, hh⟩
theorem invS_while {c : Cx} {t} {b} {X : Stmt} (hh : isS c (.while t b) X = true) : ∃ x y u1, X = .While x y [] u1 ∧ (isE c t x && isB c b y) = true := by
  unfold isS at hh; split at hh
  all_goals first | (cases hh; done) | (rename_i he; cases he; done) | skip
  rename_i he; cases he; exact ⟨_, _, _, rfl, hh⟩
theorem invS_for {c : Cx} {i} {e} {b} {X : Stmt} (hh : isS c (.for i e b) X = true) : ∃ t x y u1, X = .For t x y [] u1 ∧ (isLoc c i t && isE c e x && isB c b y && notSet x) = true := by
  unfold isS at hh; split at hh
  all_goals first | (cases hh; done) | (rename_i he; cases he; done) | skip
  rename_i he; cases he; exact ⟨_, _, _, _, rfl, hh⟩
theorem invS_try {c : Cx} {k} {b} {X : Stmt} (hh : isS c (.try k b) X = true) : ∃ y x u1 u2 u3 u4, X = .Try y [.ExceptHandler (some (.Name x u1)) none [.Pass u2] u3] [] [] u4 ∧ (x == labName k && c.kinds.lookup x == some .globalImplicit && isB c b y) = true := by
  unfold isS at hh; split at hh
  all_goals first | (cases hh; done) | (rename_i he; cases he; done) | skip
  rename_i he; cases he; exact ⟨_, _, _, _, _, _, rfl, hh⟩
theorem invS_raise {c : Cx} {k} {X : Stmt} (hh : isS c (.raise k) X = true) : ∃ x u1 u2 u3, X = .Raise (some (.Call (.Name x u1) [] [] u2)) none u3 ∧ (x == labName k && c.kinds.lookup x == some .globalImplicit) = true := by
  unfold isS at hh; split at hh
  all_goals first | (cases hh; done) | (rename_i he; cases he; done) | skip
  rename_i he; cases he; exact ⟨_, _, _, _, rfl, hh⟩
theorem invS_ret {c : Cx} {e} {X : Stmt} (hh : isS c (.ret e) X = true) : ∃ x u1, X = .Return (some x) u1 ∧ (isE c e x) = true := by
  unfold isS at hh; split at hh
  all_goals first | (cases hh; done) | (rename_i he; cases he; done) | skip
  rename_i he; cases he; exact ⟨_, _, rfl, hh⟩
theorem invS_pass {c : Cx} {X : Stmt} (hh : isS c (.pass) X = true) : ∃ u1, X = .Pass u1 ∧ (true) = true := by
  unfold isS at hh; split at hh
  all_goals first | (cases hh; done) | (rename_i he; cases he; done) | skip
  rename_i he; cases he; exact ⟨_, rfl, hh⟩
theorem invS_brk {c : Cx} {X : Stmt} (hh : isS c (.brk) X = true) : ∃ u1, X = .Break u1 ∧ (true) = true := by
  unfold isS at hh; split at hh
  all_goals first | (cases hh; done) | (rename_i he; cases he; done) | skip
  rename_i he; cases he; exact ⟨_, rfl, hh⟩
theorem invS_cont {c : Cx} {X : Stmt} (hh : isS c (.cont) X = true) : ∃ u1, X = .Continue u1 ∧ (true) = true := by
  unfold isS at hh; split at hh
  all_goals first | (cases hh; done) | (rename_i he; cases he; done) | skip
  rename_i he; cases he; exact ⟨_, rfl, hh⟩
theorem invS_assert {c : Cx} {e} {X : Stmt} (hh : isS c (.assert e) X = true) : ∃ x u1, X = .Assert x none u1 ∧ (isE c e x) = true := by
  unfold isS at hh; split at hh
  all_goals first | (cases hh; done) | (rename_i he; cases he; done) | skip
  rename_i he; cases he; exact ⟨_, _, rfl, hh⟩
end Mine
namespace Mine
def Ctx (c : Cx) (S : Sit) : Prop := S.names = c.names ∧ S.env.scope.names = c.kinds
inductive RepsV (w : World) (fr : List Env) (I : Option (Addr × Addr)) (g : Option Addr) (h : Heap) : List AV → List Value → Prop
  | nil : RepsV w fr I g h [] []
  | cons {v val l vals} : Rep w fr I g h v val → RepsV w fr I g h l vals → RepsV w fr I g h (v :: l) (val :: vals)
theorem RepsV.kp {w : World} {B h h' : Heap} {fr : List Env} {I : Option (Addr × Addr)} {fl : FL} {g : Option Addr} {l : List AV} {vals : List Value} (H : HInv B fr I fl h) (r : RepsV w fr I g h l vals) (k : Kp fr (dl I) h h') : RepsV w fr I g h' l vals := by
  induction r with
  | nil => exact .nil
  | cons a _ ih => exact .cons (a.kp H k) ih
def PostB (w : World) (B : Heap) (S : Sit) (g : Option Addr) (σ : AS) (s : Shared) (fl : FL) (b : Bool) (Q : Bool → Shared → Prop) : Prop :=
  ∀ s', Inv w B S g ⟨σ.loc, fl⟩ s' → Kp S.fr (dl S.inst) s.heap s'.heap → Q b s'
def PostL (w : World) (B : Heap) (S : Sit) (g : Option Addr) (σ : AS) (s : Shared) (fl : FL) (vs : List AV) (Q : List Value → Shared → Prop) : Prop :=
  ∀ vals s', Inv w B S g ⟨σ.loc, fl⟩ s' → Kp S.fr (dl S.inst) s.heap s'.heap → RepsV w S.fr S.inst g s'.heap vs vals → Q vals s'
def CallOk (w : World) (B : Heap) (n : Nat) (Γ : Call) : Prop :=
  ∀ (f : Nat) (vs : List AV) (fl : FL) (v : AV) (fl' : FL), Γ f vs fl = some (v, fl') → ∀ (S : Sit) (s : Shared) (vals : List Value) (Q : Value → Shared → Prop) (E : Value → Shared → Prop), Good n B S → HInv B S.fr S.inst fl s.heap → s.gens = #[] → s.os = S.os →
    vs.all AV.isSt = true → RepsV w S.fr S.inst none s.heap vs vals →
    (∀ val s', HInv B S.fr S.inst fl' s'.heap → Kp S.fr (dl S.inst) s.heap s'.heap → s'.gens = #[] → s'.os = S.os → Rep w S.fr S.inst none s'.heap v val → Q val s') →
    wpAny (model pw w) S.A (call (.ref (fnAddr.getD f 0)) vals) Q E s
section
variable (w : World) (B : Heap) (n : Nat) (Γ : Call)
def SE (e : CE) : Prop := ∀ (c : Cx) (ex : Expr) (σ : AS) (v : AV) (fl' : FL) (S : Sit) (g : Option Addr) (s : Shared) (Q : Value → Shared → Prop) (E : Value → Shared → Prop),
  isE c e ex = true → Ctx c S → evE tabs Γ e σ = some (v, fl') → Good n B S → Inv w B S g σ s → Post w B S g σ s fl' v Q → wpAny (model pw w) S.A (eval ex S.env) Q E s
def ST (e : CE) : Prop := ∀ (c : Cx) (ex : Expr) (σ : AS) (b : Bool) (fl' : FL) (S : Sit) (g : Option Addr) (s : Shared) (Q : Bool → Shared → Prop) (E : Value → Shared → Prop),
  isE c e ex = true → Ctx c S → evE tabs Γ e σ = some (ab b, fl') → Good n B S → Inv w B S g σ s → PostB w B S g σ s fl' b Q → wpAny (model pw w) S.A (isTrue ex S.env (eval ex S.env)) Q E s
def SA (l : CA) : Prop := ∀ (c : Cx) (xs : List Expr) (σ : AS) (vs : List AV) (fl' : FL) (S : Sit) (g : Option Addr) (s : Shared) (pos : Pos) (Q : List Value → Shared → Prop) (E : Value → Shared → Prop),
  isA c l xs = true → Ctx c S → evA tabs Γ l σ = some (vs, fl') → Good n B S → Inv w B S g σ s → PostL w B S g σ s fl' vs Q → wpAny (model pw w) S.A (spliced (backTo pos (starEach xs S.env))) Q E s
def SAnd (l : CA) : Prop := ∀ (c : Cx) (xs : List Expr) (σ : AS) (v : AV) (fl' : FL) (S : Sit) (g : Option Addr) (s : Shared) (Q : Bool → Shared → Prop) (E : Value → Shared → Prop),
  isA c l xs = true → Ctx c S → evAnd tabs Γ l σ = some (v, fl') → Good n B S → Inv w B S g σ s → (∀ b, v = ab b → PostB w B S g σ s fl' b Q) → wpAny (model pw w) S.A (allTrue .And xs S.env) Q E s
def SOr (l : CA) : Prop := ∀ (c : Cx) (xs : List Expr) (σ : AS) (v : AV) (fl' : FL) (S : Sit) (g : Option Addr) (s : Shared) (Q : Bool → Shared → Prop) (E : Value → Shared → Prop),
  isA c l xs = true → Ctx c S → evOr tabs Γ l σ = some (v, fl') → Good n B S → Inv w B S g σ s → (∀ b, v = ab b → PostB w B S g σ s fl' b Q) → wpAny (model pw w) S.A (allTrue .Or xs S.env) Q E s
def SAndV (l : CA) : Prop := ∀ (c : Cx) (xs : List Expr) (σ : AS) (v : AV) (fl' : FL) (S : Sit) (g : Option Addr) (s : Shared) (pos : Pos) (Q : Value → Shared → Prop) (E : Value → Shared → Prop),
  isA c l xs = true → Ctx c S → evAnd tabs Γ l σ = some (v, fl') → Good n B S → Inv w B S g σ s → Post w B S g σ s fl' v Q → wpAny (model pw w) S.A (boolOp pos .And (evalEach xs S.env)) Q E s
def SOrV (l : CA) : Prop := ∀ (c : Cx) (xs : List Expr) (σ : AS) (v : AV) (fl' : FL) (S : Sit) (g : Option Addr) (s : Shared) (pos : Pos) (Q : Value → Shared → Prop) (E : Value → Shared → Prop),
  isA c l xs = true → Ctx c S → evOr tabs Γ l σ = some (v, fl') → Good n B S → Inv w B S g σ s → Post w B S g σ s fl' v Q → wpAny (model pw w) S.A (boolOp pos .Or (evalEach xs S.env)) Q E s
def PE (e : CE) : Prop := SE w B n Γ e ∧ ST w B n Γ e
def PA (l : CA) : Prop := SA w B n Γ l ∧ SAnd w B n Γ l ∧ SOr w B n Γ l ∧ SAndV w B n Γ l ∧ SOrV w B n Γ l
end
section
variable {w : World} {B : Heap} {n : Nat} {Γ : Call}
def plainT : Expr → Bool
  | .UnaryOp .. => false
  | .BoolOp .. => false
  | .IfExp .. => false
  | .Compare .. => false
  | _ => true
theorem isTrue_plain {ex : Expr} {env : Env} {whole : Sem Value} (h : plainT ex = true) : isTrue ex env whole = (do let v ← whole; standAt ex.pos; holding [v] (truthy v)) := by
  cases ex <;> first | rfl | (simp [plainT] at h)
theorem st_plain {e : CE} (h : SE w B n Γ e) (hp : ∀ c ex, isE c e ex = true → plainT ex = true) : PE w B n Γ e := by
  refine ⟨h, fun c ex σ b fl' S g s Q E hi hc he hg V q => ?_⟩; refine wpAny_isTrue_value (h c ex σ _ fl' S g s _ E hi hc he hg V fun val s' V' k r => ?_) (isTrue_plain (hp c ex hi))
  cases r
  exact wpAny_truthy_bool (q s' V' k)
theorem case_var (i : Nat) : PE w B n Γ (.var i) := by
  refine st_plain (fun c ex σ v fl' S g s Q E hi hc he hg V q => ?_) fun c ex hi => ?_
  · unfold isE isVar at hi
    split at hi
    · rename_i x p
      simp only [Bool.and_eq_true, Bool.not_eq_true', beq_iff_eq] at hi; unfold evE at he
      split at he
      · rename_i u hu
        cases he
        obtain ⟨y, val, h1, h2, h3⟩ := V.vars i v hu; rw [hc.1, hi.1] at h1
        cases h1
        refine wpAny_Name ?_ hi.2
        rcases h2 with ⟨hk, m, hn, hm⟩ | ⟨hk, a, ha, o, ho, hd⟩
        · exact wpAny_loadName_local hg.kind hk hn hm (q.now V h3)
        · exact wpAny_loadName_cell hg.kind hk ha ⟨o, ho, hd⟩ (q.now V h3)
      · cases he
    · cases hi
  · unfold isE isVar at hi
    split at hi
    · rfl
    · cases hi
theorem case_int (i : Int) : PE w B n Γ (.int i) := by
  refine st_plain (fun c ex σ v fl' S g s Q E hi hc he hg V q => ?_) fun c ex hi => ?_
  · obtain ⟨m, k, p, rfl, h⟩ := invE_int hi
    rw [beq_iff_eq] at h; subst h; unfold evE at he; cases he; exact wpAny_Constant_int (q.tk V ⟨_, rfl⟩)
  · obtain ⟨m, k, p, rfl, h⟩ := invE_int hi; rfl
theorem case_str (x : Str) : PE w B n Γ (.str x) := by
  refine st_plain (fun c ex σ v fl' S g s Q E hi hc he hg V q => ?_) fun c ex hi => ?_
  · obtain ⟨m, k, p, rfl, h⟩ := invE_str hi
    rw [beq_iff_eq] at h; subst h; unfold evE at he; cases he; exact Calls.Constant_str (q.tk V ⟨_, rfl⟩)
  · obtain ⟨m, k, p, rfl, h⟩ := invE_str hi; rfl
theorem case_bool (x : Bool) : PE w B n Γ (.bool x) := by
  refine st_plain (fun c ex σ v fl' S g s Q E hi hc he hg V q => ?_) fun c ex hi => ?_
  · obtain ⟨m, k, p, rfl, h⟩ := invE_bool hi
    rw [beq_iff_eq] at h; subst h; unfold evE at he; cases he; exact wpAny_Constant_bool (q.now V rfl)
  · obtain ⟨m, k, p, rfl, h⟩ := invE_bool hi; rfl
theorem case_neg (i : Int) : PE w B n Γ (.neg i) := by
  have h1 : SE w B n Γ (.neg i) := fun c ex σ v fl' S g s Q E hi hc he hg V q => by
    obtain ⟨m, k, p, p', rfl, h⟩ := invE_neg hi; rw [beq_iff_eq] at h; subst h; unfold evE at he; cases he; exact wpAny_UnaryOp (wpAny_Constant_int (P.neg_int (q.tk V ⟨_, rfl⟩)))
  refine ⟨h1, fun c ex σ b fl' S g s Q E hi hc he hg V q => ?_⟩; obtain ⟨m, k, p, p', rfl, h⟩ := invE_neg hi; unfold evE at he; cases he
theorem kIn (hf : Fixed w B) : (KK w.params).In B := (kk_in w.params).keeps hf.low
theorem glob_ok {c : Cx} {x : Str} {ex : Expr} {S : Sit} {g : Option Addr} {σ : AS} {s : Shared} {Q : Value → Shared → Prop} {E : Value → Shared → Prop} {v : Value} (hf : Fixed w B) (hi : isGlob c x ex = true) (hc : Ctx c S) (hg : Good n B S) (V : Inv w B S g σ s)
    (e : nsIn (KK w.params) mainGlobals x = some (some v)) (q : Q v s) : wpAny (model pw w) S.A (eval ex S.env) Q E s := by
  unfold isGlob at hi
  split at hi
  · simp only [Bool.and_eq_true, Bool.not_eq_true', beq_iff_eq] at hi
    obtain ⟨⟨rfl, h2⟩, h3⟩ := hi; obtain ⟨mg, hG⟩ := hf.glob; refine Calls.Name_function_global hg.kind (by unfold Env.kindOf; rw [hc.2]; exact h2) (Calls.loadGlobal_global (mg := mg) ?_ (mg_of (kIn hf) hG e) q) h3; rw [hg.globals]; exact hG.keeps V.stays
  · cases hi
theorem globB_ok {c : Cx} {x : Str} {ex : Expr} {S : Sit} {g : Option Addr} {σ : AS} {s : Shared} {Q : Value → Shared → Prop} {E : Value → Shared → Prop} {v : Value} (hf : Fixed w B) (hi : isGlob c x ex = true) (hc : Ctx c S) (hg : Good n B S) (V : Inv w B S g σ s)
    (e : nsIn (KK w.params) mainGlobals x = some none) (hv : bootBuiltins x = some v) (hn : x ≠ "__name__") (q : Q v s) : wpAny (model pw w) S.A (eval ex S.env) Q E s := by
  unfold isGlob at hi
  split at hi
  · simp only [Bool.and_eq_true, Bool.not_eq_true', beq_iff_eq] at hi
    obtain ⟨⟨rfl, h2⟩, h3⟩ := hi; obtain ⟨mg, hG⟩ := hf.glob; obtain ⟨mb, hB, hb⟩ := hf.bu; refine Calls.Name_function_global hg.kind (by unfold Env.kindOf; rw [hc.2]; exact h2) (Calls.loadGlobal_builtin (mg := mg) (mb := mb) ?_ (mg_none_of (kIn hf) hG e) ?_ ((hb x hn).trans hv) q) h3
    · rw [hg.globals]; exact hG.keeps V.stays
    · rw [hg.builtins]; exact hB.keeps V.stays
  · cases hi
theorem isGlob_plain {c : Cx} {x : Str} {ex : Expr} (hi : isGlob c x ex = true) : ∃ p, ex = .Name x p := by
  unfold isGlob at hi
  split at hi
  · simp only [Bool.and_eq_true, beq_iff_eq] at hi
    obtain ⟨⟨rfl, _⟩, _⟩ := hi; exact ⟨_, rfl⟩
  · cases hi
theorem case_bin (o : Bop) {a b : CE} (ha : PE w B n Γ a) (hb : PE w B n Γ b) : PE w B n Γ (.bin o a b) := by
  refine st_plain (fun c ex σ v fl' S g s Q E hi hc he hg V q => ?_) fun c ex hi => ?_
  · obtain ⟨l, op, r, p, rfl, h⟩ := invE_bin hi
    simp only [Bool.and_eq_true] at h; obtain ⟨⟨h1, h2⟩, h3⟩ := h; unfold evE at he
    split at he
    · rename_i x fl₁ hx
      split at he
      · rename_i y fl₂ hy
        obtain ⟨z, hz, e⟩ := Option.map_eq_some_iff.mp he
        cases e
        refine wpAny_BinOp (ha.1 c l σ x fl₁ S g s _ E h2 hc hx hg V fun va s₁ V₁ k₁ r₁ => ?_); refine hb.1 c r ⟨σ.loc, fl₁⟩ y _ S g s₁ _ E h3 hc hy hg V₁ fun vb s₂ V₂ k₂ r₂ => ?_
        refine bin_ok ?_ hz V₂ (r₁.kp V₁.toHInv k₂) r₂ ((q.step (k₁.trans k₂) : Post w B S g ⟨σ.loc, _⟩ s₂ _ _ Q)); unfold isBop at h1
        split at h1 <;> first | rfl | cases h1
      · cases he
    · cases he
  · obtain ⟨l, op, r, p, rfl, h⟩ := invE_bin hi; rfl
theorem case_cmp (hf : Fixed w B) (o : Cop) {a b : CE} (ha : PE w B n Γ a) (hb : PE w B n Γ b) : PE w B n Γ (.cmp o a b) := by
  have core : ∀ (c : Cx) (l r : Expr) (σ : AS) (v : AV) (fl' : FL) (S : Sit) (g : Option Addr) (s : Shared) (Q : Value → Shared → Prop) (E : Value → Shared → Prop), isE c a l = true → isE c b r = true → Ctx c S →
      evE tabs Γ (.cmp o a b) σ = some (v, fl') → Good n B S → Inv w B S g σ s → Post w B S g σ s fl' v Q →
      wpAny (model pw w) S.A (eval l S.env) (fun x s₁ => wpAny (model pw w) S.A (eval r S.env) (fun y s₂ => wpAny (model pw w) S.A (compareOp (copOf o) x y) Q E s₂) E s₁) E s := by
    intro c l r σ v fl' S g s Q E h2 h3 hc he hg V q
    unfold evE at he
    split at he
    · rename_i x fl₁ hx
      split at he
      · rename_i y fl₂ hy
        obtain ⟨z, hz, e⟩ := Option.map_eq_some_iff.mp he
        cases e
        refine ha.1 c l σ x fl₁ S g s _ E h2 hc hx hg V fun va s₁ V₁ k₁ r₁ => ?_
        refine hb.1 c r ⟨σ.loc, fl₁⟩ y _ S g s₁ _ E h3 hc hy hg V₁ fun vb s₂ V₂ k₂ r₂ => ?_
        exact cmp_ok hf.sets (by have := hg.units; omega) hz V₂ (r₁.kp V₁.toHInv k₂) r₂ ((q.step (k₁.trans k₂) : Post w B S g ⟨σ.loc, _⟩ s₂ _ _ Q))
      · cases he
    · cases he
  refine ⟨fun c ex σ v fl' S g s Q E hi hc he hg V q => ?_, fun c ex σ bb fl' S g s Q E hi hc he hg V q => ?_⟩
  · obtain ⟨l, op, r, p, rfl, h⟩ := invE_cmp hi
    simp only [Bool.and_eq_true, Bool.not_eq_true', beq_iff_eq] at h; obtain ⟨⟨⟨rfl, h2⟩, h3⟩, h4⟩ := h; exact wpAny_Compare1 (core c l r σ v fl' S g s Q E h2 h3 hc he hg V q) h4
  · obtain ⟨l, op, r, p, rfl, h⟩ := invE_cmp hi
    simp only [Bool.and_eq_true, Bool.not_eq_true', beq_iff_eq] at h; obtain ⟨⟨⟨rfl, h2⟩, h3⟩, h4⟩ := h; refine wpAny_isTrue_Compare1 (core c l r σ _ fl' S g s _ E h2 h3 hc he hg V fun val s' V' k r => ?_) h4
    cases r
    exact wpAny_truthy_bool (q s' V' k)
theorem truth_ab {v : AV} {b : Bool} (h : truth v = some b) : v = ab b := by
  unfold truth at h
  split at h
  · cases h; rfl
  · cases h
theorem case_not {a : CE} (ha : PE w B n Γ a) : PE w B n Γ (.not a) := by
  refine ⟨fun c ex σ v fl' S g s Q E hi hc he hg V q => ?_, fun c ex σ bb fl' S g s Q E hi hc he hg V q => ?_⟩
  · obtain ⟨x, p, rfl, h⟩ := invE_not hi
    unfold evE at he
    split at he
    · rename_i y fl₁ hx
      obtain ⟨z, hz, e⟩ := Option.map_eq_some_iff.mp he
      cases e
      refine wpAny_UnaryOp (ha.1 c x σ y _ S g s _ E h hc hx hg V fun va s₁ V₁ k₁ r₁ => ?_); rw [truth_ab hz] at r₁
      cases r₁
      exact not_value (wpAny_truthy_bool (q _ s₁ V₁ k₁ rfl))
    · cases he
  · obtain ⟨x, p, rfl, h⟩ := invE_not hi
    unfold evE at he
    split at he
    · rename_i y fl₁ hx
      obtain ⟨z, hz, e⟩ := Option.map_eq_some_iff.mp he; rw [truth_ab hz] at hx
      have e1 : (!z) = bb ∧ fl₁ = fl' := by
        have := Prod.mk.inj e
        refine ⟨?_, this.2⟩
        have h1 := this.1
        unfold ab at h1
        injection h1 with h1; injection h1 with h1; injection h1
      obtain ⟨rfl, rfl⟩ := e1; exact wpAny_isTrue_Not (ha.2 c x σ z _ S g s _ E h hc hx hg V fun s₁ V₁ k₁ => q s₁ V₁ k₁)
    · cases he
theorem case_ite {t a b : CE} (ht : PE w B n Γ t) (ha : PE w B n Γ a) (hb : PE w B n Γ b) : PE w B n Γ (.ite t a b) := by
  refine ⟨fun c ex σ v fl' S g s Q E hi hc he hg V q => ?_, fun c ex σ bb fl' S g s Q E hi hc he hg V q => ?_⟩
  · obtain ⟨x, y, z, p, rfl, h⟩ := invE_ite hi
    simp only [Bool.and_eq_true] at h; unfold evE at he
    split at he
    · rename_i y' fl₁ hx
      split at he
      · rename_i hz
        rw [truth_ab hz] at hx; refine wpAny_IfExp (ht.2 c x σ true _ S g s _ E h.1.1 hc hx hg V fun s₁ V₁ k₁ => ?_); exact ha.1 c y ⟨σ.loc, fl₁⟩ v fl' S g s₁ Q E h.1.2 hc he hg V₁ (q.step k₁)
      · rename_i hz
        rw [truth_ab hz] at hx; refine wpAny_IfExp (ht.2 c x σ false _ S g s _ E h.1.1 hc hx hg V fun s₁ V₁ k₁ => ?_); exact hb.1 c z ⟨σ.loc, fl₁⟩ v fl' S g s₁ Q E h.2 hc he hg V₁ (q.step k₁)
      · cases he
    · cases he
  · obtain ⟨x, y, z, p, rfl, h⟩ := invE_ite hi
    simp only [Bool.and_eq_true] at h; rw [arm_isTrue_IfExp]; unfold evE at he
    split at he
    · rename_i y' fl₁ hx
      split at he
      · rename_i hz
        rw [truth_ab hz] at hx; refine wpAny_bind (ht.2 c x σ true _ S g s _ E h.1.1 hc hx hg V fun s₁ V₁ k₁ => ?_); exact ha.2 c y ⟨σ.loc, fl₁⟩ bb fl' S g s₁ Q E h.1.2 hc he hg V₁ fun s₂ V₂ k₂ => q s₂ V₂ (k₁.trans k₂)
      · rename_i hz
        rw [truth_ab hz] at hx; refine wpAny_bind (ht.2 c x σ false _ S g s _ E h.1.1 hc hx hg V fun s₁ V₁ k₁ => ?_); exact hb.2 c z ⟨σ.loc, fl₁⟩ bb fl' S g s₁ Q E h.2 hc he hg V₁ fun s₂ V₂ k₂ => q s₂ V₂ (k₁.trans k₂)
      · cases he
    · cases he
end
end Mine
namespace Mine
section
variable {w : World} {B : Heap} {n : Nat} {Γ : Call}
theorem isA_nil {c : Cx} {xs : List Expr} (h : isA c .nil xs = true) : xs = [] := by
  cases xs with
  | nil => rfl
  | cons _ _ => simp [isA] at h
theorem isA_cons {c : Cx} {e : CE} {r : CA} {xs : List Expr} (h : isA c (.cons e r) xs = true) : ∃ x ys, xs = x :: ys ∧ isE c e x = true ∧ isA c r ys = true ∧ notStar x = true := by
  cases xs with
  | nil => simp [isA] at h
  | cons x ys => simp only [isA, Bool.and_eq_true] at h; exact ⟨x, ys, rfl, h.1.1, h.1.2, h.2⟩
theorem starEach_plain {x : Expr} {ys : List Expr} {env : Env} (h : notStar x = true) : starEach (x :: ys) env = (false, eval x env) :: starEach ys env := by
  cases x <;> first | rfl | cases h
theorem caseA_nil : PA w B n Γ .nil := by
  refine ⟨fun c xs σ vs fl' S g s pos Q E hi hc he hg V q => ?_, fun c xs σ v fl' S g s Q E hi hc he hg V q => ?_, fun c xs σ v fl' S g s Q E hi hc he hg V q => ?_, fun c xs σ v fl' S g s pos Q E hi hc he hg V q => ?_, fun c xs σ v fl' S g s pos Q E hi hc he hg V q => ?_⟩
  · rw [isA_nil hi]
    unfold evA at he; cases he; exact wpAny_items_nil (q [] s (V.keep fun _ _ e => e) (.refl ..) .nil)
  all_goals (first | (unfold evAnd at he; cases he; done) | (unfold evOr at he; cases he; done))
theorem caseA_cons {e : CE} {r : CA} (h1 : PE w B n Γ e) (h2 : PA w B n Γ r) : PA w B n Γ (.cons e r) := by
  refine ⟨fun c xs σ vs fl' S g s pos Q E hi hc he hg V q => ?_, fun c xs σ v fl' S g s Q E hi hc he hg V q => ?_, fun c xs σ v fl' S g s Q E hi hc he hg V q => ?_, fun c xs σ v fl' S g s pos Q E hi hc he hg V q => ?_, fun c xs σ v fl' S g s pos Q E hi hc he hg V q => ?_⟩
  · obtain ⟨x, ys, rfl, i1, i2, i3⟩ := isA_cons hi
    unfold evA at he
    split at he
    · rename_i v fl₁ hv
      split at he
      · rename_i vs' fl₂ hvs
        cases he
        refine wpAny_items_cons ?_ (starEach_plain i3); refine h1.1 c x σ v fl₁ S g s _ E i1 hc hv hg V fun va s₁ V₁ k₁ r₁ => ?_
        refine h2.1 c ys ⟨σ.loc, fl₁⟩ vs' _ S g s₁ pos _ E i2 hc hvs hg V₁ fun vals s₂ V₂ k₂ r₂ => ?_
        exact q _ s₂ V₂ (k₁.trans k₂) (.cons (r₁.kp V₁.toHInv k₂) r₂)
      · cases he
    · cases he
  · obtain ⟨x, ys, rfl, i1, i2, i3⟩ := isA_cons hi
    cases r with
    | nil =>
      rw [isA_nil i2]; unfold evAnd at he
      split at he
      · rename_i y fl₁ hy
        obtain ⟨z, hz, e⟩ := Option.map_eq_some_iff.mp he
        cases e
        rw [truth_ab hz] at hy; refine wpAny_allTrue_And_cons (h1.2 c x σ z _ S g s _ E i1 hc hy hg V fun s₁ V₁ k₁ => ?_)
        cases z
        · exact q false rfl s₁ V₁ k₁
        · exact wpAny_allTrue_And_nil (q true rfl s₁ V₁ k₁)
      · cases he
    | cons e' r' =>
      unfold evAnd at he
      split at he
      · rename_i y fl₁ hy
        split at he
        · rename_i hz
          rw [truth_ab hz] at hy; refine wpAny_allTrue_And_cons (h1.2 c x σ true _ S g s _ E i1 hc hy hg V fun s₁ V₁ k₁ => ?_); exact h2.2.1 c ys ⟨σ.loc, fl₁⟩ v fl' S g s₁ Q E i2 hc he hg V₁ fun b hb s₂ V₂ k₂ => q b hb s₂ V₂ (k₁.trans k₂)
        · rename_i hz
          rw [truth_ab hz] at hy
          cases he
          exact wpAny_allTrue_And_cons (h1.2 c x σ false _ S g s _ E i1 hc hy hg V fun s₁ V₁ k₁ => q false rfl s₁ V₁ k₁)
        · cases he
      · cases he
  · obtain ⟨x, ys, rfl, i1, i2, i3⟩ := isA_cons hi
    cases r with
    | nil =>
      rw [isA_nil i2]; unfold evOr at he
      split at he
      · rename_i y fl₁ hy
        obtain ⟨z, hz, e⟩ := Option.map_eq_some_iff.mp he
        cases e
        rw [truth_ab hz] at hy; refine wpAny_allTrue_Or_cons (h1.2 c x σ z _ S g s _ E i1 hc hy hg V fun s₁ V₁ k₁ => ?_)
        cases z
        · exact wpAny_allTrue_Or_nil (q false rfl s₁ V₁ k₁)
        · exact q true rfl s₁ V₁ k₁
      · cases he
    | cons e' r' =>
      unfold evOr at he
      split at he
      · rename_i y fl₁ hy
        split at he
        · rename_i hz
          rw [truth_ab hz] at hy; refine wpAny_allTrue_Or_cons (h1.2 c x σ false _ S g s _ E i1 hc hy hg V fun s₁ V₁ k₁ => ?_); exact h2.2.2.1 c ys ⟨σ.loc, fl₁⟩ v fl' S g s₁ Q E i2 hc he hg V₁ fun b hb s₂ V₂ k₂ => q b hb s₂ V₂ (k₁.trans k₂)
        · rename_i hz
          rw [truth_ab hz] at hy
          cases he
          exact wpAny_allTrue_Or_cons (h1.2 c x σ true _ S g s _ E i1 hc hy hg V fun s₁ V₁ k₁ => q true rfl s₁ V₁ k₁)
        · cases he
      · cases he
  · obtain ⟨x, ys, rfl, i1, i2, i3⟩ := isA_cons hi
    cases r with
    | nil =>
      rw [isA_nil i2]; unfold evAnd at he
      split at he
      · rename_i y fl₁ hy
        obtain ⟨z, hz, e⟩ := Option.map_eq_some_iff.mp he
        cases e
        rw [truth_ab hz] at hy; exact h1.1 c x σ _ _ S g s _ E i1 hc hy hg V q
      · cases he
    | cons e' r' =>
      obtain ⟨x', ys', rfl, _⟩ := isA_cons i2; unfold evAnd at he
      show wpAny (model pw w) S.A (do
        let v ← eval x S.env
        standAt pos
        let t ← holding [v] (truthy v)
        match BoolOp.And, t with
        | .And, false | .Or, true => pure v
        | _, _ => boolOp pos .And (evalEach (x' :: ys') S.env)) Q E s
      split at he
      · rename_i y fl₁ hy
        split at he
        · rename_i hz
          rw [truth_ab hz] at hy; refine wpAny_bind (h1.1 c x σ _ _ S g s _ E i1 hc hy hg V fun va s₁ V₁ k₁ r₁ => ?_)
          cases r₁
          refine wpAny_bind (wpAny_standAt (wpAny_bind (wpAny_holding (wpAny_truthy_bool ?_)))); exact h2.2.2.2.1 c _ ⟨σ.loc, fl₁⟩ v fl' S g s₁ pos Q E i2 hc he hg V₁ (q.step k₁)
        · rename_i hz
          rw [truth_ab hz] at hy
          cases he
          refine wpAny_bind (h1.1 c x σ _ _ S g s _ E i1 hc hy hg V fun va s₁ V₁ k₁ r₁ => ?_)
          cases r₁
          exact wpAny_bind (wpAny_standAt (wpAny_bind (wpAny_holding (wpAny_truthy_bool (wpAny_pure (q _ s₁ V₁ k₁ rfl))))))
        · cases he
      · cases he
  · obtain ⟨x, ys, rfl, i1, i2, i3⟩ := isA_cons hi
    cases r with
    | nil =>
      rw [isA_nil i2]; unfold evOr at he
      split at he
      · rename_i y fl₁ hy
        obtain ⟨z, hz, e⟩ := Option.map_eq_some_iff.mp he
        cases e
        rw [truth_ab hz] at hy; exact h1.1 c x σ _ _ S g s _ E i1 hc hy hg V q
      · cases he
    | cons e' r' =>
      obtain ⟨x', ys', rfl, _⟩ := isA_cons i2; unfold evOr at he
      show wpAny (model pw w) S.A (do
        let v ← eval x S.env
        standAt pos
        let t ← holding [v] (truthy v)
        match BoolOp.Or, t with
        | .And, false | .Or, true => pure v
        | _, _ => boolOp pos .Or (evalEach (x' :: ys') S.env)) Q E s
      split at he
      · rename_i y fl₁ hy
        split at he
        · rename_i hz
          rw [truth_ab hz] at hy; refine wpAny_bind (h1.1 c x σ _ _ S g s _ E i1 hc hy hg V fun va s₁ V₁ k₁ r₁ => ?_)
          cases r₁
          refine wpAny_bind (wpAny_standAt (wpAny_bind (wpAny_holding (wpAny_truthy_bool ?_)))); exact h2.2.2.2.2 c _ ⟨σ.loc, fl₁⟩ v fl' S g s₁ pos Q E i2 hc he hg V₁ (q.step k₁)
        · rename_i hz
          rw [truth_ab hz] at hy
          cases he
          refine wpAny_bind (h1.1 c x σ _ _ S g s _ E i1 hc hy hg V fun va s₁ V₁ k₁ r₁ => ?_)
          cases r₁
          exact wpAny_bind (wpAny_standAt (wpAny_bind (wpAny_holding (wpAny_truthy_bool (wpAny_pure (q _ s₁ V₁ k₁ rfl))))))
        · cases he
      · cases he
theorem case_and {l : CA} (h : PA w B n Γ l) : PE w B n Γ (.and l) := by
  refine ⟨fun c ex σ v fl' S g s Q E hi hc he hg V q => ?_, fun c ex σ bb fl' S g s Q E hi hc he hg V q => ?_⟩
  · obtain ⟨vs, p, rfl, i⟩ := invE_and hi
    unfold evE at he; rw [arm_eval_BoolOp]; exact h.2.2.2.1 c vs σ v fl' S g s p Q E i hc he hg V q
  · obtain ⟨vs, p, rfl, i⟩ := invE_and hi
    unfold evE at he; refine wpAny_isTrue_BoolOp (h.2.1 c vs σ _ fl' S g s Q E i hc he hg V fun b hb => ?_); unfold ab at hb; injection hb with hb; injection hb with hb; injection hb with hb
    subst hb; exact q
theorem case_or {l : CA} (h : PA w B n Γ l) : PE w B n Γ (.or l) := by
  refine ⟨fun c ex σ v fl' S g s Q E hi hc he hg V q => ?_, fun c ex σ bb fl' S g s Q E hi hc he hg V q => ?_⟩
  · obtain ⟨vs, p, rfl, i⟩ := invE_or hi
    unfold evE at he; rw [arm_eval_BoolOp]; exact h.2.2.2.2 c vs σ v fl' S g s p Q E i hc he hg V q
  · obtain ⟨vs, p, rfl, i⟩ := invE_or hi
    unfold evE at he; refine wpAny_isTrue_BoolOp (h.2.2.1 c vs σ _ fl' S g s Q E i hc he hg V fun b hb => ?_); unfold ab at hb; injection hb with hb; injection hb with hb; injection hb with hb
    subst hb; exact q
theorem case_idx (hf : Fixed w B) {a b : CE} (ha : PE w B n Γ a) (hb : PE w B n Γ b) : PE w B n Γ (.idx a b) := by
  refine st_plain (fun c ex σ v fl' S g s Q E hi hc he hg V q => ?_) fun c ex hi => ?_
  · obtain ⟨x, y, p, rfl, h⟩ := invE_idx hi
    simp only [Bool.and_eq_true] at h; unfold evE at he
    split at he
    · rename_i x' fl₁ hx
      split at he
      · rename_i y' fl₂ hy
        obtain ⟨z, hz, e⟩ := Option.map_eq_some_iff.mp he
        cases e
        refine Subscript_ (ha.1 c x σ x' fl₁ S g s _ E h.1.1 hc hx hg V fun va s₁ V₁ k₁ r₁ => ?_); refine hb.1 c y ⟨σ.loc, fl₁⟩ y' _ S g s₁ _ E h.1.2 hc hy hg V₁ fun vb s₂ V₂ k₂ r₂ => ?_
        exact idx_ok hf hz V₂ (r₁.kp V₁.toHInv k₂) r₂ ((q.step (k₁.trans k₂) : Post w B S g ⟨σ.loc, _⟩ s₂ _ _ Q))
      · cases he
    · cases he
  · obtain ⟨x, y, p, rfl, h⟩ := invE_idx hi; rfl
theorem slice_ok {S : Sit} {g : Option Addr} {σ : AS} {s : Shared} {Q : Value → Shared → Prop} {E : Value → Shared → Prop} {x v : AV} {a vl vu : Value} {lo hi : Option Int} {value slice : Expr} (e : sliceV x lo hi = some v) (V : Inv w B S g σ s)
    (ra : Rep w S.fr S.inst g s.heap x a) (hl : IsPart vl lo) (hu : IsPart vu hi) (q : Post w B S g σ s σ.fl v Q) :
    wpAny (model pw w) S.A (subscriptTail value slice a (.ref s.heap.objs.size)) Q E { s with heap := s.heap.push { cls := .type "slice", data := .fields #[vl, vu, .none] } } := by
  unfold sliceV at e
  split at e
  · rename_i y
    obtain ⟨t, rfl⟩ := ra
    split at e
    · rename_i hc
      cases e
      simp only [Bool.and_eq_true, decide_eq_true_eq] at hc
      have q' : ∀ t' k, Q (.str (Txt.slice y lo hi) t') { s with heap := s.heap.push { cls := .type "slice", data := .fields #[vl, vu, .none] }, toks := k } := fun t' k => by
        rw [txt_slice y lo hi hc.1.1.1.2 hc.1.1.2]; exact q.keep V (fun _ _ e => Heap.get?_push_of_some _ e) ⟨t', rfl⟩
      have hsz : (Txt.slice y lo hi).length ≤ sizeLine := Nat.le_trans (Txt.slice_le y lo hi) (small_le hc.1.1.1.1)
      obtain ⟨l, hl'⟩ : ∃ l : Option (Int × Tok), l.map (·.1) = lo ∧ vl = partValue l := by
        cases hl with
        | none => exact ⟨none, rfl, rfl⟩
        | int i t => exact ⟨some (i, t), rfl, rfl⟩
      obtain ⟨u, hu'⟩ : ∃ l : Option (Int × Tok), l.map (·.1) = hi ∧ vu = partValue l := by
        cases hu with
        | none => exact ⟨none, rfl, rfl⟩
        | int i t => exact ⟨some (i, t), rfl, rfl⟩
      obtain ⟨rfl, rfl⟩ := hl'; obtain ⟨rfl, rfl⟩ := hu'; refine tail_any (typeIs_str _ _ _) F.slot_str_getitem.lookup (wpAny_getItem_str_slice (l := l) (u := u) (st := none) ⟨_, Heap.get?_push_size _ rfl, rfl, rfl⟩ rfl ?_); exact post_val_or_str ⟨hsz, q'⟩
    · cases e
  · rename_i l
    obtain ⟨b, vs, rfl, hb, hL, r1⟩ := ra
    split at e
    · rename_i hc
      cases e
      simp only [Bool.and_eq_true, decide_eq_true_eq] at hc
      have hsz : vs.size ≤ sizeLine := by rw [← Array.length_toList, r1.len]; exact small_le hc.1.1.1.1
      refine tail_any (Heap.IsList.typeIs (s := { s with heap := s.heap.push { cls := .type "slice", data := .fields #[vl, vu, .none] } }) (hL.push _)) list_getitem_lookup
        (wpAny_getItem_list_slice (hL.push _) (Heap.IsSliceOf.new ..) hl hu .none (by simp) ?_ hsz)
      have hp := list_pick vs lo hi hc.1.1.1.2 hc.1.1.2
      refine q.keep V (fun _ _ e => Heap.get?_push_of_some _ (Heap.get?_push_of_some _ e)) ⟨_, _, rfl, ?_, ⟨_, Heap.get?_push_size _ rfl, rfl, _, rfl⟩, ?_⟩
      · refine fresh_g V ?_
        exact Heap.get?_none_of_le (by rw [Heap.size_push]; exact Nat.le_succ _)
      · rw [hp]
        cases hi with
        | none => simpa using r1.drop _
        | some j => simpa using (r1.take _).drop _
    · cases e
  · cases e
theorem evalPart_none {M : Model} {A : Around} {E : Value → Shared → Prop} {s : Shared} {env : Env} {Q : Value → Shared → Prop} (h : Q .none s) : wpAny M A (evalPart none env) Q E s := wpAny_pure h
theorem evalPart_some {M : Model} {A : Around} {E : Value → Shared → Prop} {s : Shared} {env : Env} {e : Expr} {Q : Value → Shared → Prop} (h : wpAny M A (eval e env) Q E s) : wpAny M A (evalPart (some e) env) Q E s := h
theorem case_sliceTo {a b : CE} (ha : PE w B n Γ a) (hb : PE w B n Γ b) : PE w B n Γ (.sliceTo a b) := by
  refine st_plain (fun c ex σ v fl' S g s Q E hi hc he hg V q => ?_) fun c ex hi => ?_
  · obtain ⟨x, y, p, p', rfl, h⟩ := invE_sliceTo hi
    simp only [Bool.and_eq_true] at h; unfold evE at he
    split at he
    · rename_i x' fl₁ hx
      split at he
      · rename_i i fl₂ hy
        obtain ⟨z, hz, e⟩ := Option.map_eq_some_iff.mp he
        cases e
        refine Subscript_ (ha.1 c x σ x' fl₁ S g s _ E h.1 hc hx hg V fun va s₁ V₁ k₁ r₁ => ?_); refine wpAny_Slice (evalPart_none (evalPart_some ?_)); refine hb.1 c y ⟨σ.loc, fl₁⟩ _ _ S g s₁ _ E h.2 hc hy hg V₁ fun vb s₂ V₂ k₂ r₂ => evalPart_none ?_
        obtain ⟨t, rfl⟩ := r₂; exact slice_ok hz V₂ (r₁.kp V₁.toHInv k₂) .none (.int _ _) ((q.step (k₁.trans k₂) : Post w B S g ⟨σ.loc, _⟩ s₂ _ _ Q))
      · cases he
    · cases he
  · obtain ⟨x, y, p, p', rfl, h⟩ := invE_sliceTo hi; rfl
theorem case_sliceFrom {a b : CE} (ha : PE w B n Γ a) (hb : PE w B n Γ b) : PE w B n Γ (.sliceFrom a b) := by
  refine st_plain (fun c ex σ v fl' S g s Q E hi hc he hg V q => ?_) fun c ex hi => ?_
  · obtain ⟨x, y, p, p', rfl, h⟩ := invE_sliceFrom hi
    simp only [Bool.and_eq_true] at h; unfold evE at he
    split at he
    · rename_i x' fl₁ hx
      split at he
      · rename_i i fl₂ hy
        obtain ⟨z, hz, e⟩ := Option.map_eq_some_iff.mp he
        cases e
        refine Subscript_ (ha.1 c x σ x' fl₁ S g s _ E h.1 hc hx hg V fun va s₁ V₁ k₁ r₁ => ?_); refine wpAny_Slice (evalPart_some ?_); refine hb.1 c y ⟨σ.loc, fl₁⟩ _ _ S g s₁ _ E h.2 hc hy hg V₁ fun vb s₂ V₂ k₂ r₂ => evalPart_none (evalPart_none ?_)
        obtain ⟨t, rfl⟩ := r₂; exact slice_ok hz V₂ (r₁.kp V₁.toHInv k₂) (.int _ _) .none ((q.step (k₁.trans k₂) : Post w B S g ⟨σ.loc, _⟩ s₂ _ _ Q))
      · cases he
    · cases he
  · obtain ⟨x, y, p, p', rfl, h⟩ := invE_sliceFrom hi; rfl
theorem case_slice {a l b : CE} (ha : PE w B n Γ a) (hl : PE w B n Γ l) (hb : PE w B n Γ b) : PE w B n Γ (.slice a l b) := by
  refine st_plain (fun c ex σ v fl' S g s Q E hi hc he hg V q => ?_) fun c ex hi => ?_
  · obtain ⟨x, y, z', p, p', rfl, h⟩ := invE_slice hi
    simp only [Bool.and_eq_true] at h; unfold evE at he
    split at he
    · rename_i x' fl₁ hx
      split at he
      · rename_i i fl₂ hy
        split at he
        · rename_i j fl₃ hj
          obtain ⟨z, hz, e⟩ := Option.map_eq_some_iff.mp he
          cases e
          refine Subscript_ (ha.1 c x σ x' fl₁ S g s _ E h.1.1 hc hx hg V fun va s₁ V₁ k₁ r₁ => ?_); refine wpAny_Slice (evalPart_some ?_); refine hl.1 c y ⟨σ.loc, fl₁⟩ _ _ S g s₁ _ E h.1.2 hc hy hg V₁ fun vl s₂ V₂ k₂ r₂ => evalPart_some ?_
          refine hb.1 c z' ⟨σ.loc, fl₂⟩ _ _ S g s₂ _ E h.2 hc hj hg V₂ fun vb s₃ V₃ k₃ r₃ => evalPart_none ?_
          obtain ⟨t, rfl⟩ := r₂; obtain ⟨u, rfl⟩ := r₃; exact slice_ok hz V₃ ((r₁.kp V₁.toHInv k₂).kp V₂.toHInv k₃) (.int _ _) (.int _ _) ((q.step ((k₁.trans k₂).trans k₃) : Post w B S g ⟨σ.loc, _⟩ s₃ _ _ Q))
        · cases he
      · cases he
    · cases he
  · obtain ⟨x, y, z', p, p', rfl, h⟩ := invE_slice hi; rfl
end
end Mine
namespace Mine
section
variable {w : World} {B : Heap} {n : Nat} {Γ : Call}
theorem isA_any {c : Cx} {env : Env} {pos : Pos} : ∀ {l : CA} {xs : List Expr}, isA c l xs = true → (backTo pos (starEach xs env)).any (·.1) = false
  | .nil, xs, h => by rw [isA_nil h]; rfl
  | .cons e r, xs, h => by
    obtain ⟨x, ys, rfl, _, h2, h3⟩ := isA_cons h; rw [starEach_plain h3]; show (false || (backTo pos (starEach ys env)).any (·.1)) = false; rw [isA_any h2]; rfl
theorem callW {M : Model} {A : Around} {env : Env} {pos : Pos} {f : Value} {first : List Value} {xs : List Expr} {Q : Value → Shared → Prop} {E : Value → Shared → Prop} {s : Shared} {c : Cx} {l : CA} (hi : isA c l xs = true)
    (h : wpAny M A (spliced (backTo pos (starEach xs env))) (fun vs s₁ => (∃ k, (k = Keeper.frame ∨ k = Keeper.machine ∨ k = Keeper.boundFrame) ∧ Looks M s₁.heap (keeperOf f) k) ∧ wpAny M A (call f (first ++ vs)) Q E s₁) E s) :
    wpAny M A (callWith pos f first (backTo pos (starEach xs env)) []) Q E s := by
  refine callWith_of (P := fun h => ∃ k, (k = Keeper.frame ∨ k = Keeper.machine ∨ k = Keeper.boundFrame) ∧ Looks M h (keeperOf f) k) (by rw [isA_any hi]; rfl) (fun _ h => h) ?_
  cases l with
  | nil =>
    rw [isA_nil hi] at h ⊢; unfold evalArgs; show wpAny M A (spliced (backTo pos (starEach [] env)) >>= _) _ _ s; refine wpAny_bind (wpAny_mono h (fun vs s' h' => ?_) fun _ _ x => x); refine wpAny_holding ?_; exact wpAny_bind (wpAny_pure (wpAny_bind (wpAny_pure (wpAny_pure h'))))
  | cons e r =>
    obtain ⟨x, ys, rfl, _, h2, h3⟩ := isA_cons hi; rw [starEach_plain h3] at h ⊢; exact Calls.evalArgs_plain h
theorem keep_builtin (M : Model) (h : Heap) (i : String) : ∃ k, (k = Keeper.frame ∨ k = Keeper.machine ∨ k = Keeper.boundFrame) ∧ Looks M h (keeperOf (.builtin i)) k := ⟨.machine, .inr (.inl rfl), .now⟩
theorem keep_type (M : Model) (h : Heap) (i : String) : ∃ k, (k = Keeper.frame ∨ k = Keeper.machine ∨ k = Keeper.boundFrame) ∧ Looks M h (keeperOf (.type i)) k := ⟨.machine, .inr (.inl rfl), .now⟩
theorem repsV_cons {fr : List Env} {I : Option (Addr × Addr)} {g : Option Addr} {h : Heap} {v : AV} {l : List AV} {vals : List Value} (r : RepsV w fr I g h (v :: l) vals) : ∃ val r', vals = val :: r' ∧ Rep w fr I g h v val ∧ RepsV w fr I g h l r' := by
  cases r with
  | cons a b => exact ⟨_, _, rfl, a, b⟩
theorem repsV_nil {fr : List Env} {I : Option (Addr × Addr)} {g : Option Addr} {h : Heap} {vals : List Value} (r : RepsV w fr I g h [] vals) : vals = [] := by
  cases r; rfl
theorem builtin_call {c : Cx} {x : Str} {f : Expr} {xs : List Expr} {p : Pos} {fv : Value} {l : CA} {vs : List AV} {fl₁ : FL} {σ : AS} {S : Sit} {g : Option Addr} {s : Shared} {Q : Value → Shared → Prop} {E : Value → Shared → Prop}
    (hf : Fixed w B) (hl : PA w B n Γ l) (hi : isGlob c x f = true) (hx : isA c l xs = true) (hc : Ctx c S) (hg : Good n B S) (V : Inv w B S g σ s) (ev : evA tabs Γ l σ = some (vs, fl₁))
    (e : nsIn (KK w.params) mainGlobals x = some none) (hv : bootBuiltins x = some fv) (hn : x ≠ "__name__") (hk : ∀ h, ∃ k, (k = Keeper.frame ∨ k = Keeper.machine ∨ k = Keeper.boundFrame) ∧ Looks (model pw w) h (keeperOf fv) k)
    (q : ∀ vals s₁, Inv w B S g ⟨σ.loc, fl₁⟩ s₁ → Kp S.fr (dl S.inst) s.heap s₁.heap → RepsV w S.fr S.inst g s₁.heap vs vals → wpAny (model pw w) S.A (call fv vals) Q E s₁) :
    wpAny (model pw w) S.A (eval (.Call f xs [] p) S.env) Q E s := by
  obtain ⟨p', rfl⟩ := isGlob_plain hi; rw [arm_eval_Call_Name']; refine wpAny_bind (globB_ok hf hi hc hg V e hv hn ?_); exact callW (first := []) hx (hl.1 c xs σ vs fl₁ S g s _ _ E hx hc ev hg V fun vals s₁ V₁ k₁ r₁ => ⟨hk _, q vals s₁ V₁ k₁ r₁⟩)
theorem one_A {a : CE} (h : PE w B n Γ a) : PA w B n Γ (.cons a .nil) := caseA_cons h caseA_nil
theorem isA_one {c : Cx} {a : CE} {x : Expr} (h : isE c a x = true) (hs : notStar x = true) : isA c (.cons a .nil) [x] = true := by simp [isA, h, hs]
theorem evA_one {a : CE} {σ : AS} {v : AV} {fl : FL} (h : evE tabs Γ a σ = some (v, fl)) : evA tabs Γ (.cons a .nil) σ = some ([v], fl) := by simp [evA, h]
theorem evA_two {a b : CE} {σ : AS} {v u : AV} {fl fl' : FL} (h : evE tabs Γ a σ = some (v, fl)) (h' : evE tabs Γ b ⟨σ.loc, fl⟩ = some (u, fl')) : evA tabs Γ (.cons a (.cons b .nil)) σ = some ([v, u], fl') := by simp [evA, h, h']
theorem not_star : ∀ {c : Cx} {e : CE} {x : Expr}, isE c e x = true → notStar x = true := by
  intro c e x h
  cases x <;> first | rfl | (exfalso; unfold isE at h; split at h <;> first | (cases h; done) | (rename_i he; cases he; done) | (simp [isVar, isGlob] at h; done))
theorem nsLen (P : Params) : nsIn (KK P) mainGlobals (sName "len") = some none := by kernel_rfl!
theorem nsOrd (P : Params) : nsIn (KK P) mainGlobals (sName "ord") = some none := by kernel_rfl!
theorem nsMin (P : Params) : nsIn (KK P) mainGlobals (sName "min") = some none := by kernel_rfl!
theorem nsMax (P : Params) : nsIn (KK P) mainGlobals (sName "max") = some none := by kernel_rfl!
theorem nsRange (P : Params) : nsIn (KK P) mainGlobals (sName "range") = some none := by kernel_rfl!
theorem boLen : bootBuiltins (sName "len") = some (.builtin "len") := by decide +kernel
theorem boOrd : bootBuiltins (sName "ord") = some (.builtin "ord") := by decide +kernel
theorem boMin : bootBuiltins (sName "min") = some (.builtin "min") := by decide +kernel
theorem boMax : bootBuiltins (sName "max") = some (.builtin "max") := by decide +kernel
theorem boRange : bootBuiltins (sName "range") = some (.type "range") := by decide +kernel
theorem amo_len {a : Addr} {l : List Addr} (h : amoList a = some l) : l.length ≤ 11 := by
  unfold amoList at h
  repeat' (split at h)
  all_goals (first | (cases h; decide) | cases h)
theorem case_len (hf : Fixed w B) {a : CE} (ha : PE w B n Γ a) : PE w B n Γ (.len a) := by
  refine st_plain (fun c ex σ v fl' S g s Q E hi hc he hg V q => ?_) fun c ex hi => ?_
  · obtain ⟨f, x, p, rfl, h⟩ := invE_len hi
    simp only [Bool.and_eq_true] at h; unfold evE at he
    split at he
    · rename_i y fl₁ hy
      obtain ⟨z, hz, e⟩ := Option.map_eq_some_iff.mp he
      cases e
      refine builtin_call hf (one_A ha) h.1 (isA_one h.2 (not_star h.2)) hc hg V (evA_one hy) (nsLen _) boLen (by decide) (fun h => keep_builtin _ h _) fun vals s₁ V₁ k₁ r₁ => ?_
      obtain ⟨val, r', rfl, ra, r₂⟩ := repsV_cons r₁; rw [repsV_nil r₂]
      have q' := (q.step k₁ : Post w B S g ⟨σ.loc, fl'⟩ s₁ _ _ Q)
      unfold lenV at hz
      split at hz
      · rename_i y
        obtain ⟨t, rfl⟩ := ra
        split at hz
        · rename_i hs
          cases hz
          have := small_100 hs
          exact P.len_str (by omega) (q'.tk V₁ ⟨_, rfl⟩)
        · cases hz
      · rename_i l
        obtain ⟨b, vs, rfl, _, hl, r1⟩ := ra
        split at hz
        · rename_i hs
          cases hz
          have := small_100 hs
          have e : vs.size = l.length := by rw [← Array.length_toList, r1.len]
          refine Calls.call_len_list hl (by omega) ?_; rw [e]; exact q'.tk V₁ ⟨_, rfl⟩
        · cases hz
      · rename_i b
        cases ra
        obtain ⟨l, hl, rfl⟩ := Option.map_eq_some_iff.mp hz
        have hL := hf.amo b l hl
        have hL' : s₁.heap.IsList b (l.map Value.ref).toArray := let ⟨o, ho, r⟩ := hL; ⟨o, V₁.stays b o ho, r⟩
        have := amo_len hl
        refine Calls.call_len_list hL' (by simp; omega) ?_; simp only [List.size_toArray, List.length_map]; exact q'.tk V₁ ⟨_, rfl⟩
      · cases hz
    · cases he
  · obtain ⟨f, x, p, rfl, h⟩ := invE_len hi; rfl
theorem case_ord (hf : Fixed w B) {a : CE} (ha : PE w B n Γ a) : PE w B n Γ (.ord a) := by
  refine st_plain (fun c ex σ v fl' S g s Q E hi hc he hg V q => ?_) fun c ex hi => ?_
  · obtain ⟨f, x, p, rfl, h⟩ := invE_ord hi
    simp only [Bool.and_eq_true] at h; unfold evE at he
    split at he
    · rename_i y fl₁ hy
      split at he
      · rename_i h1
        cases he
        refine builtin_call hf (one_A ha) h.1 (isA_one h.2 (not_star h.2)) hc hg V (evA_one hy) (nsOrd _) boOrd (by decide) (fun h => keep_builtin _ h _) fun vals s₁ V₁ k₁ r₁ => ?_
        obtain ⟨val, r', rfl, ⟨t, rfl⟩, r₂⟩ := repsV_cons r₁; rw [repsV_nil r₂]; exact ord_of_one h1 ((q.step k₁ : Post w B S g ⟨σ.loc, _⟩ s₁ _ _ Q).tk V₁ ⟨_, rfl⟩)
      · cases he
    · cases he
  · obtain ⟨f, x, p, rfl, h⟩ := invE_ord hi; rfl
theorem two_A {a b : CE} (h : PE w B n Γ a) (h' : PE w B n Γ b) : PA w B n Γ (.cons a (.cons b .nil)) := caseA_cons h (caseA_cons h' caseA_nil)
theorem isA_two {c : Cx} {a b : CE} {x y : Expr} (h : isE c a x = true) (h' : isE c b y = true) : isA c (.cons a (.cons b .nil)) [x, y] = true := by simp [isA, h, h', not_star h, not_star h']
theorem case_min (hf : Fixed w B) {a b : CE} (ha : PE w B n Γ a) (hb : PE w B n Γ b) : PE w B n Γ (.min a b) := by
  refine st_plain (fun c ex σ v fl' S g s Q E hi hc he hg V q => ?_) fun c ex hi => ?_
  · obtain ⟨f, x, y, p, rfl, h⟩ := invE_min hi
    simp only [Bool.and_eq_true] at h; unfold evE at he
    split at he
    · rename_i i fl₁ hy
      split at he
      · rename_i j fl₂ hj
        cases he
        refine builtin_call hf (two_A ha hb) h.1.1 (isA_two h.1.2 h.2) hc hg V (evA_two hy hj) (nsMin _) boMin (by decide) (fun h => keep_builtin _ h _) fun vals s₁ V₁ k₁ r₁ => ?_
        obtain ⟨val, r', rfl, ⟨t, rfl⟩, r₂⟩ := repsV_cons r₁; obtain ⟨val, r', rfl, ⟨u, rfl⟩, r₃⟩ := repsV_cons r₂; rw [repsV_nil r₃]; refine min_two_ints hg.handled fun h' tk k => ?_
        have q' := (q.step k₁ : Post w B S g ⟨σ.loc, fl'⟩ s₁ _ _ Q)
        split
        · rename_i hlt; rw [if_pos hlt] at q'; exact q'.keep V₁ k ⟨_, rfl⟩
        · rename_i hlt; rw [if_neg hlt] at q'; exact q'.keep V₁ k ⟨_, rfl⟩
      · cases he
    · cases he
  · obtain ⟨f, x, y, p, rfl, h⟩ := invE_min hi; rfl
theorem case_max (hf : Fixed w B) {a b : CE} (ha : PE w B n Γ a) (hb : PE w B n Γ b) : PE w B n Γ (.max a b) := by
  refine st_plain (fun c ex σ v fl' S g s Q E hi hc he hg V q => ?_) fun c ex hi => ?_
  · obtain ⟨f, x, y, p, rfl, h⟩ := invE_max hi
    simp only [Bool.and_eq_true] at h; unfold evE at he
    split at he
    · rename_i i fl₁ hy
      split at he
      · rename_i j fl₂ hj
        cases he
        refine builtin_call hf (two_A ha hb) h.1.1 (isA_two h.1.2 h.2) hc hg V (evA_two hy hj) (nsMax _) boMax (by decide) (fun h => keep_builtin _ h _) fun vals s₁ V₁ k₁ r₁ => ?_
        obtain ⟨val, r', rfl, ⟨t, rfl⟩, r₂⟩ := repsV_cons r₁; obtain ⟨val, r', rfl, ⟨u, rfl⟩, r₃⟩ := repsV_cons r₂; rw [repsV_nil r₃]; refine max_two_ints hg.handled fun h' tk k => ?_
        have q' := (q.step k₁ : Post w B S g ⟨σ.loc, fl'⟩ s₁ _ _ Q)
        split
        · rename_i hlt; rw [if_pos hlt] at q'; exact q'.keep V₁ k ⟨_, rfl⟩
        · rename_i hlt; rw [if_neg hlt] at q'; exact q'.keep V₁ k ⟨_, rfl⟩
      · cases he
    · cases he
  · obtain ⟨f, x, y, p, rfl, h⟩ := invE_max hi; rfl
end
end Mine
namespace Mine
section
variable {w : World} {B : Heap} {n : Nat} {Γ : Call}
theorem case_range (hf : Fixed w B) {l : CA} (hl : PA w B n Γ l) : PE w B n Γ (.range l) := by
  refine st_plain (fun c ex σ v fl' S g s Q E hi hc he hg V q => ?_) fun c ex hi => ?_
  · obtain ⟨f, xs, p, rfl, h⟩ := invE_range hi
    simp only [Bool.and_eq_true] at h; unfold evE at he
    have fin : ∀ (lo hi st : Int) (t u x : Tok) (s₁ : Shared) (k : Nat), Inv w B S g ⟨σ.loc, fl'⟩ s₁ → Kp S.fr (dl S.inst) s.heap s₁.heap → v = .rng lo hi st →
        Q (.ref s₁.heap.objs.size) { s₁ with heap := s₁.heap.push { cls := .type "range", data := .fields #[.int lo t, .int hi u, .int st x] }, toks := k } := by
      intro lo hi st t u x s₁ k V₁ k₁ e
      subst e; refine (q.step k₁ : Post w B S g ⟨σ.loc, fl'⟩ s₁ _ _ Q).keep V₁ (fun _ _ e => Heap.get?_push_of_some _ e) ⟨_, rfl, fresh_g V₁ (get_size _), fresh_apart V₁ (get_size _), t, u, x, Heap.get?_push_size _ rfl⟩
    split at he
    · rename_i i fl₁ hy
      split at he
      · cases he
        refine builtin_call hf hl h.1 h.2 hc hg V hy (nsRange _) boRange (by decide) (fun h => keep_type _ h _) fun vals s₁ V₁ k₁ r₁ => ?_
        obtain ⟨val, r', rfl, ⟨t, rfl⟩, r₂⟩ := repsV_cons r₁; rw [repsV_nil r₂]; exact call_range_1 (fin _ _ _ _ _ _ s₁ _ V₁ k₁ rfl)
      · cases he
    · rename_i i j fl₁ hy
      split at he
      · cases he
        refine builtin_call hf hl h.1 h.2 hc hg V hy (nsRange _) boRange (by decide) (fun h => keep_type _ h _) fun vals s₁ V₁ k₁ r₁ => ?_
        obtain ⟨val, r', rfl, ⟨t, rfl⟩, r₂⟩ := repsV_cons r₁; obtain ⟨val, r', rfl, ⟨u, rfl⟩, r₃⟩ := repsV_cons r₂; rw [repsV_nil r₃]; exact call_range_2 (fin _ _ _ _ _ _ s₁ _ V₁ k₁ rfl)
      · cases he
    · rename_i i j st fl₁ hy
      split at he
      · rename_i hh
        simp only [Bool.and_eq_true, decide_eq_true_eq] at hh; obtain ⟨_, rfl⟩ := hh
        cases he
        refine builtin_call hf hl h.1 h.2 hc hg V hy (nsRange _) boRange (by decide) (fun h => keep_type _ h _) fun vals s₁ V₁ k₁ r₁ => ?_
        obtain ⟨val, r', rfl, ⟨t, rfl⟩, r₂⟩ := repsV_cons r₁; obtain ⟨val, r', rfl, ⟨u, rfl⟩, r₃⟩ := repsV_cons r₂; obtain ⟨val, r', rfl, ⟨x, rfl⟩, r₄⟩ := repsV_cons r₃; rw [repsV_nil r₄]; exact call_range_3 (by decide) (fin _ _ _ _ _ _ s₁ _ V₁ k₁ rfl) (.inl (PyProof.noPylong_small (by decide)))
      · cases he
    · cases he
  · obtain ⟨f, xs, p, rfl, h⟩ := invE_range hi; rfl
theorem endswith_eq (x y : Str) : Txt.endswith x y = y.cps.toList.isSuffixOf x.cps.toList := by
  unfold Txt.endswith; rw [StrLaws.subAt_eq]; rw [Bool.eq_iff_iff]; simp only [Nat.zero_add, Bool.and_eq_true, decide_eq_true_eq, beq_iff_eq, List.isSuffixOf_iff_suffix, Str.length]
  constructor
  · rintro ⟨h1, h2⟩
    rw [← h2]
    have : (x.cps.toList.drop (x.cps.size - y.cps.size)).take y.cps.size = x.cps.toList.drop (x.cps.size - y.cps.size) := List.take_of_length_le (by simp; omega)
    rw [this]; exact List.drop_suffix _ _
  · intro h
    have h1 := h.length_le
    simp only [Array.length_toList] at h1; refine ⟨h1, ?_⟩; obtain ⟨t, ht⟩ := h
    have hl : t.length = x.cps.size - y.cps.size := by
      have := congrArg List.length ht
      simp at this; omega
    rw [← ht, ← hl, List.drop_left, List.take_of_length_le (by simp)]
theorem notCall_base {o : Expr} {attr : Str} {env : Env} {whole : Sem Value} (h : notCall o = true) : attributeBase o attr env whole = whole := by
  cases o <;> first | rfl | cases h
theorem meth_call {c : Cx} {o : Expr} {nm : Str} {ap p : Pos} {xs : List Expr} {l : CA} {vs : List AV} {fl₁ : FL} {σ : AS} {S : Sit} {g : Option Addr} {s : Shared} {Q : Value → Shared → Prop} {E : Value → Shared → Prop} {ov : Value} {first : List Value}
    (hl : PA w B n Γ l) (hx : isA c l xs = true) (hlen : xs.length < 29) (hc : Ctx c S) (hg : Good n B S) (V : Inv w B S g σ s) (ev : evA tabs Γ l σ = some (vs, fl₁)) (hpos : (ap.endLine == p.line) = true) {fv : Value}
    (hm : ∀ pl R, R (fv, first) s → wpAny (model pw w) S.A (getMethod ov nm pl) R E s)
    (hk : ∀ h, B.StaysIn h → ∃ k, (k = Keeper.frame ∨ k = Keeper.machine ∨ k = Keeper.boundFrame) ∧ Looks (model pw w) h (keeperOf fv) k)
    (q : ∀ vals s₁, Inv w B S g ⟨σ.loc, fl₁⟩ s₁ → Kp S.fr (dl S.inst) s.heap s₁.heap → RepsV w S.fr S.inst g s₁.heap vs vals → wpAny (model pw w) S.A (call fv (first ++ vals)) Q E s₁) :
    wpAny (model pw w) S.A (methodCall o nm ap p S.env ov (xs.length + 0) (backTo p (starEach xs S.env)) []) Q E s := by
  have few : methodCallForm (xs.length + 0) (backTo p (starEach xs S.env)) ([] : List (Option Str × Sem Value)) = true := by
    unfold methodCallForm
    have h1 := isA_any (env := S.env) (pos := p) hx
    have h2 : (backTo p (starEach xs S.env)).all (fun x => !x.1) = true := by
      rw [List.all_eq_true]
      intro y hy
      cases hb : y.1 with
      | false => rfl
      | true => rw [List.any_eq_false] at h1; exact absurd hb (h1 y hy)
    rw [h2]; simp; omega
  unfold methodCall; rw [few]; refine wpAny_bind (wpAny_holding (hm _ _ ?_)); unfold methodCallPos; rw [hpos]; refine wpAny_bind (wpAny_pure ?_); exact callW (first := first) hx (hl.1 c xs σ vs fl₁ S g s _ _ E hx hc ev hg V fun vals s₁ V₁ k₁ r₁ => ⟨hk _ V₁.stays, q vals s₁ V₁ k₁ r₁⟩)
theorem case_endswith {a b : CE} (ha : PE w B n Γ a) (hb : PE w B n Γ b) : PE w B n Γ (.endswith a b) := by
  refine st_plain (fun c ex σ v fl' S g s Q E hi hc he hg V q => ?_) fun c ex hi => ?_
  · obtain ⟨x, nm, ap, y, p, rfl, h⟩ := invE_endswith hi
    simp only [Bool.and_eq_true, beq_iff_eq] at h; obtain ⟨⟨⟨⟨h1, h2⟩, rfl⟩, h4⟩, h5⟩ := h; rw [arm_eval_Call, notCall_base h2]; unfold evE at he
    split at he
    · rename_i x' fl₁ hx
      split at he
      · rename_i y' fl₂ hy
        obtain ⟨z, hz, e⟩ := Option.map_eq_some_iff.mp he
        cases e
        refine wpAny_bind (ha.1 c x σ x' fl₁ S g s _ E h1 hc hx hg V fun va s₁ V₁ k₁ r₁ => ?_); refine wpAny_bind (wpAny_standAt ?_); unfold endsV at hz
        split at hz
        · rename_i u y
          obtain ⟨t, rfl⟩ := r₁
          split at hz
          · cases hz
            refine meth_call (first := [.str u t]) (fv := .builtin "str.endswith") (one_A hb) (isA_one h4 (not_star h4)) (by simp) hc hg V₁ (evA_one hy) (by simp [h5]) (fun pl R hr => GM.endswith hr) (fun h _ => keep_builtin _ h _) fun vals s₂ V₂ k₂ r₂ => ?_
            obtain ⟨val, r', rfl, ⟨t', rfl⟩, r₃⟩ := repsV_cons r₂; rw [repsV_nil r₃]; refine SC.endswith ?_; rw [endswith_eq]; exact (q.step (k₁.trans k₂) : Post w B S g ⟨σ.loc, fl'⟩ s₂ _ _ Q).now V₂ rfl
          · cases hz
        · cases hz
      · cases he
    · cases he
  · obtain ⟨x, nm, ap, y, p, rfl, h⟩ := invE_endswith hi; rfl
theorem join_flat (xs : List Str) : Txt.join Str.empty xs = ⟨(xs.flatMap (·.cps.toList)).toArray⟩ := by
  show Builtin.Str.glued Str.empty xs = _
  rw [StrLaws.glued_eq_join]
  induction xs with
  | nil => rfl
  | cons x r ih =>
    cases r with
    | nil => cases x; simp [Str.join]
    | cons y r =>
      show x ++ Str.empty ++ Str.join Str.empty (y :: r) = _
      rw [ih]; rw [Str.append_empty]; refine Str.ext' ?_; rw [Str.cps_append]; simp
theorem case_join {a : CE} (ha : PE w B n Γ a) : PE w B n Γ (.join a) := by
  refine st_plain (fun c ex σ v fl' S g s Q E hi hc he hg V q => ?_) fun c ex hi => ?_
  · obtain ⟨z, u1, u2, nm, ap, y, p, rfl, h⟩ := invE_join hi
    simp only [Bool.and_eq_true, beq_iff_eq] at h; obtain ⟨⟨⟨rfl, rfl⟩, h4⟩, h5⟩ := h; rw [arm_eval_Call, notCall_base rfl]; unfold evE at he
    split at he
    · rename_i x' fl₁ hx
      obtain ⟨z, hz, e⟩ := Option.map_eq_some_iff.mp he
      cases e
      refine wpAny_bind (Calls.Constant_str (wpAny_bind (wpAny_standAt ?_)))
      have V' : Inv w B S g σ { s with toks := s.toks + 1 } := V.keep fun _ _ e => e
      refine meth_call (s := { s with toks := s.toks + 1 }) (first := [.str Str.empty s.toks]) (fv := .builtin "str.join") (one_A ha) (isA_one h4 (not_star h4)) (by simp) hc hg V' (evA_one hx) (by simp [h5]) (fun pl R hr => GM.join hr) (fun h _ => keep_builtin _ h _) fun vals s₂ V₂ k₂ r₂ => ?_
      obtain ⟨val, r', rfl, ra, r₃⟩ := repsV_cons r₂; rw [repsV_nil r₃]
      have fin : ∀ (l : List Atom) (vs : Array Value) (b : Addr) (xs : List Str), s₂.heap.IsList b vs → Reps S.inst l vs.toList → strsOf l = some xs → small ((xs.map (·.length)).sum) = true → v = as ⟨(xs.flatMap (·.cps.toList)).toArray⟩ →
          wpAny (model pw w) S.A (call (.builtin "str.join") ([.str Str.empty s.toks] ++ [.ref b])) Q E s₂ := by
        intro l vs b xs hl r1 hx hs e
        subst e; refine join_list hl (strsOf_strs r1 hx) ?_ fun t' k => ?_
        · have := small_100 hs
          have e0 : Str.empty.length = 0 := rfl
          rw [e0]; omega
        · rw [join_flat]
          exact (q.step k₂ : Post w B S g ⟨σ.loc, fl'⟩ s₂ _ _ Q).tk V₂ ⟨_, rfl⟩
      unfold joinV at hz
      split at hz
      · rename_i l
        obtain ⟨b, vs, rfl, _, hl, r1⟩ := ra
        split at hz
        · rename_i xs hx
          split at hz
          · rename_i hs
            cases hz
            rw [Bool.and_eq_true] at hs; exact fin l vs b xs hl r1 hx hs.2 rfl
          · cases hz
        · cases hz
      · rename_i l
        obtain ⟨b, vs, rfl, _, ⟨o, m, ho, hcl, _, hd⟩, r1⟩ := ra
        split at hz
        · rename_i xs hx
          split at hz
          · rename_i hs
            cases hz
            rw [Bool.and_eq_true] at hs; exact fin l vs b xs ⟨o, ho, hcl, m, hd⟩ r1 hx hs.2 rfl
          · cases hz
        · cases hz
      · cases hz
    · cases he
  · obtain ⟨z, u1, u2, nm, ap, y, p, rfl, h⟩ := invE_join hi; rfl
theorem reps_of_V {fr : List Env} {I : Option (Addr × Addr)} {g : Option Addr} {h : Heap} {vs : List AV} {vals : List Value} (r : RepsV w fr I g h vs vals) : ∀ {l : List Atom}, atomsOf vs = some l → Reps I l vals := by
  induction r with
  | nil => intro l e; cases e; exact .nil
  | @cons v val l vals a _ ih =>
    intro k e
    cases v with
    | «at» b =>
      obtain ⟨l', hl', rfl⟩ := Option.map_eq_some_iff.mp e; exact .cons a (ih hl')
    | _ => cases e
theorem evA_len {l : CA} : ∀ {σ : AS} {vs : List AV} {fl : FL} {c : Cx} {xs : List Expr}, evA tabs Γ l σ = some (vs, fl) → isA c l xs = true → vs.length = xs.length := by
  induction l using CA.rec (motive_1 := fun _ => True) with
  | nil => intro σ vs fl c xs h hi; rw [isA_nil hi]; unfold evA at h; cases h; rfl
  | cons e r _ ih =>
    intro σ vs fl c xs h hi
    obtain ⟨x, ys, rfl, _, h2, _⟩ := isA_cons hi; unfold evA at h
    split at h
    · split at h
      · rename_i hh
        cases h
        simp [ih hh h2]
      · cases h
    · cases h
  | _ => trivial
theorem case_list {l : CA} (hl : PA w B n Γ l) : PE w B n Γ (.list l) := by
  refine st_plain (fun c ex σ v fl' S g s Q E hi hc he hg V q => ?_) fun c ex hi => ?_
  · obtain ⟨xs, p, rfl, h⟩ := invE_list hi
    unfold evE at he
    split at he
    · rename_i vs fl₁ hy
      split at he
      · rename_i hsz
        obtain ⟨as', has, e⟩ := Option.map_eq_some_iff.mp he
        cases e
        refine wpAny_List (hl.1 c xs σ vs _ S g s p _ E h hc hy hg V fun vals s₁ V₁ k₁ r₁ => ?_)
        have R := reps_of_V r₁ has
        rw [has, Option.getD_some] at hsz; refine ⟨by rw [R.len]; exact small_le hsz, ?_⟩; exact (q.step k₁ : Post w B S g ⟨σ.loc, fl'⟩ s₁ _ _ Q).keep V₁ (fun _ _ e => Heap.get?_push_of_some _ e) ⟨_, _, rfl, fresh_g V₁ (get_size _), ⟨_, Heap.get?_push_size _ rfl, rfl, _, rfl⟩, by simpa using R⟩
      · cases he
    · cases he
  · obtain ⟨xs, p, rfl, h⟩ := invE_list hi; rfl
theorem case_tup {l : CA} (hl : PA w B n Γ l) : PE w B n Γ (.tup l) := by
  refine st_plain (fun c ex σ v fl' S g s Q E hi hc he hg V q => ?_) fun c ex hi => ?_
  · obtain ⟨xs, k, p, rfl, h⟩ := invE_tup hi
    unfold evE at he
    split at he
    · rename_i vs fl₁ hy
      split at he
      · rename_i hsz
        obtain ⟨as', has, e⟩ := Option.map_eq_some_iff.mp he
        cases e
        refine wpAny_Tuple (hl.1 c xs σ vs _ S g s p _ E h hc hy hg V fun vals s₁ V₁ k₁ r₁ => ?_)
        have R := reps_of_V r₁ has
        rw [has, Option.getD_some] at hsz; refine ⟨by rw [R.len]; exact small_le hsz, ?_⟩; exact (q.step k₁ : Post w B S g ⟨σ.loc, fl'⟩ s₁ _ _ Q).keep V₁ (fun _ _ e => Heap.get?_push_of_some _ e) ⟨_, _, rfl, fresh_g V₁ (get_size _), ⟨_, _, Heap.get?_push_size _ rfl, rfl, rfl⟩, by simpa using R⟩
      · cases he
    · cases he
  · obtain ⟨xs, k, p, rfl, h⟩ := invE_tup hi; rfl
end
end Mine
namespace Mine
def isStrV (x : Str) : Option PySem.Builtin.ObjectAttr.Found → Bool
  | some (.value (.str y _)) => x == y
  | _ => false
def isIntV (x : Int) : Option PySem.Builtin.ObjectAttr.Found → Bool
  | some (.value (.int y _)) => x == y
  | _ => false
def amoGood (K : Frag) (row : Nat × Str × Int × Int) : Bool := match K.lookup row.1 with
  | some ⟨.ref C, some dx, .plain, _⟩ => C == 218 && (match K.lookup dx with
    | some od => isStrV row.2.1 (findObj K 218 (some od) (sName "s")) && isIntV row.2.2.1 (findObj K 218 (some od) (sName "substring_i")) && isIntV row.2.2.2 (findObj K 218 (some od) (sName "result"))
    | none => false)
  | _ => false
theorem amoAll (P : Params) : amoRows.all (amoGood (KK P)) = true := by kernel_rfl!
theorem amoGet (P : Params) : findIn (KK P) (.ref 218) "__getattribute__" = some (some (.builtin "object.__getattribute__")) := by kernel_rfl!
def clsGood (K : Frag) (row : Str × Addr) : Bool := match findCls K (.ref 407) (.type "type") row.1 with
  | some (.val (.ref a)) => a == row.2
  | _ => false
theorem clsAll (P : Params) : clsTab.all (clsGood (KK P)) = true := by kernel_rfl!
theorem clsReads (P : Params) : readsIn (KK P) 407 (.type "type") = true := by kernel_rfl!
theorem nsCls (P : Params) : nsIn (KK P) mainGlobals (sName "DutchPorterStemmer") = some (some (.ref 407)) := by kernel_rfl!
theorem nsSigns (P : Params) : nsIn (KK P) mainGlobals (sName "_law_signs") = some (some (.str signsS 1176)) := by kernel_rfl!
theorem nsVow (P : Params) : nsIn (KK P) mainGlobals (sName "_law_vowels") = some (some (.ref 476)) := by kernel_rfl!
theorem vowIs (P : Params) : (KK P).lookup 476 = some ⟨.type "list", none, .seq #[.str ⟨#[97]⟩ 1190, .str ⟨#[101]⟩ 1191, .str ⟨#[105]⟩ 1192, .str ⟨#[111]⟩ 1193, .str ⟨#[117]⟩ 1194, .str ⟨#[121]⟩ 1195, .str ⟨#[232]⟩ 1196] 0, #[]⟩ := by kernel_rfl!
theorem dutchGet (P : Params) : findIn (KK P) (.ref 407) "__getattribute__" = some (some (.builtin "object.__getattribute__")) := by kernel_rfl!
theorem dutchHook (P : Params) : findIn (KK P) (.ref 407) "__getattr__" = some none := by kernel_rfl!
theorem dutchDict (P : Params) : hasDictIn (KK P) 407 = true := by kernel_rfl!
def fldGood (K : Frag) (x : Str) : Bool := match findIn K (.ref 407) x with
  | some attr => noGet K attr && takerIn K 407 x == some none
  | none => false
theorem fldAll (P : Params) : fnames.all (fldGood (KK P)) = true := by kernel_rfl!
def methGood (K : Frag) (i : Nat) : Bool := match fnIdx[i]? with
  | some x => findIn K (.ref 407) x == some (some (.ref (fnAddr.getD i 0))) && typeIn K (.ref (fnAddr.getD i 0)) == some (.type "function") && !fnames.contains x && keepIn K (.ref (fnAddr.getD i 0))
  | none => false
theorem methAll (P : Params) : (List.range 25).all (methGood (KK P)) = true := by kernel_rfl!
def defGood (K : Frag) (i : Nat) : Bool := match fnIdx[i]? with
  | some x => nsIn K mainGlobals x == some (some (.ref (fnAddr.getD i 0))) && keepIn K (.ref (fnAddr.getD i 0))
  | none => false
theorem defAll (P : Params) : (List.range' 25 11).all (defGood (KK P)) = true := by kernel_rfl!
theorem lookIn_of {o : Obj} {es : Array DictEntry} {ep : Nat} (hd : o.data = .dict es ep) (hk : StrKeys es) {x : Str} : lookIn x o = some (nsFind es x) := by
  unfold lookIn nsFind findBy; rw [hd]; simp only; rw [← Array.find?_toList]
  cases h : es.toList.find? (fun e => e.key.isStr x) with
  | some e => rfl
  | none =>
    simp only [Option.map_none]
    have : es.toList.any (·.refKey) = false := by
      rw [List.any_eq_false]
      intro e he
      obtain ⟨n, t, h⟩ := hk e (by simpa using he); simp [DictEntry.refKey, h]
    rw [this]; rfl
section
variable {w : World} {B : Heap} {n : Nat} {Γ : Call}
theorem case_glob (hf : Fixed w B) (x : Str) : PE w B n Γ (.glob x) := by
  refine st_plain (fun c ex σ v fl' S g s Q E hi hc he hg V q => ?_) fun c ex hi => ?_
  · have h := invE_glob hi
    simp only [Bool.and_eq_true, Bool.or_eq_true, beq_iff_eq] at h; unfold evE at he; obtain ⟨z, hz, e⟩ := Option.map_eq_some_iff.mp he
    cases e
    rcases h.2 with rfl | rfl
    · have : v = .at (.str signsS) := by
        have e : tabs.glob (sName "_law_signs") = some (.at (.str signsS)) := by kernel_rfl!
        rw [e] at hz; cases hz; rfl
      subst this; exact glob_ok hf h.1 hc hg V (nsSigns _) (q.now V ⟨_, rfl⟩)
    · have : v = .list vowelsL := by
        have e : tabs.glob (sName "_law_vowels") = some (.list vowelsL) := by kernel_rfl!
        rw [e] at hz; cases hz; rfl
      subst this
      have hB := kIn hf _ _ (vowIs w.params)
      refine glob_ok hf h.1 hc hg V (nsVow _) (q.now V ⟨476, _, rfl, fun e => ?_, ⟨_, V.stays _ _ hB, rfl, _, rfl⟩, ?_⟩)
      · have := (V.gown _ e).2.2.2.2.1
        rw [hB] at this; cases this
      · exact .cons ⟨_, rfl⟩ (.cons ⟨_, rfl⟩ (.cons ⟨_, rfl⟩ (.cons ⟨_, rfl⟩ (.cons ⟨_, rfl⟩ (.cons ⟨_, rfl⟩ (.cons ⟨_, rfl⟩ .nil))))))
  · have h := invE_glob hi
    simp only [Bool.and_eq_true] at h; obtain ⟨p, rfl⟩ := isGlob_plain h.1; rfl
theorem eval_attr {o : Expr} {a : Str} {p : Pos} {M : Model} {A : Around} {env : Env} {Q : Value → Shared → Prop} {E : Value → Shared → Prop} {s : Shared} {prog : Program} {w : World} (hM : M = model prog w) (hn : notCall o = true)
    (h : wpAny M A (eval o env) (fun v s₁ => wpAny M A (getAttr v a true) Q E s₁) E s) : wpAny M A (eval (.Attribute o a p) env) Q E s := by
  subst hM; rw [arm_eval_Attribute, notCall_base hn]; exact wpAny_bind (wpAny_mono h (fun v s₁ h₁ => wpAny_bind (wpAny_standAt (wpAny_bind (wpAny_holding (wpAny_mono h₁ (fun r s₂ h₂ => wpAny_bind (wpAny_letTemporaryGo (wpAny_pure h₂))) fun _ _ e => e))))) fun _ _ e => e)
theorem isVar_name {c : Cx} {i : Nat} {e : Expr} (h : isVar c i e = true) : ∃ x p, e = .Name x p ∧ c.names[i]? = some x ∧ (x == ("__debug__" : Str)) = false := by
  unfold isVar at h
  split at h
  · simp only [Bool.and_eq_true, Bool.not_eq_true', beq_iff_eq] at h; exact ⟨_, _, rfl, h.1, h.2⟩
  · cases h
theorem case_cattr (hf : Fixed w B) (x : Str) : PE w B n Γ (.cattr x) := by
  refine st_plain (fun c ex σ v fl' S g s Q E hi hc he hg V q => ?_) fun c ex hi => ?_
  · obtain ⟨e, a, p, rfl, h⟩ := invE_cattr hi
    simp only [Bool.and_eq_true, beq_iff_eq] at h; obtain ⟨h1, rfl⟩ := h; unfold evE at he; obtain ⟨z, hz, e⟩ := Option.map_eq_some_iff.mp he
    cases e
    have hn : notCall e = true := by obtain ⟨p, rfl⟩ := isGlob_plain h1; rfl
    refine eval_attr rfl hn (glob_ok hf h1 hc hg V (nsCls _) ?_)
    have hz' : clsTab.lookup x = some z := hz
    have hm : (x, z) ∈ clsTab := by
      have : ∀ (l : List (Str × Addr)), l.lookup x = some z → (x, z) ∈ l := by
        intro l
        induction l with
        | nil => intro h; cases h
        | cons p l ih =>
          obtain ⟨k, b⟩ := p
          intro h
          rw [List.lookup_cons] at h
          split at h
          · rename_i hk; cases h; rw [beq_iff_eq.mp hk]; exact .head _
          · exact .tail _ (ih h)
      exact this _ hz'
    have hg' := List.all_eq_true.mp (clsAll w.params) _ hm
    unfold clsGood at hg'
    split at hg'
    · rename_i b hb
      rw [beq_iff_eq] at hg'; subst hg'; exact cls_value ((kIn hf).keeps V.stays) (clsReads _) hb rfl (q.tk V rfl)
    · cases hg'
  · obtain ⟨e, a, p, rfl, h⟩ := invE_cattr hi; rfl
theorem amoAt_mem {a : Addr} {x : Str} {v : Atom} : ∀ {l : List (Nat × Str × Int × Int)}, amoAt l a x = some v → ∃ r ∈ l, r.1 = a ∧ ((x = sName "s" ∧ v = .str r.2.1) ∨ (x = sName "substring_i" ∧ v = .int r.2.2.1) ∨ (x = sName "result" ∧ v = .int r.2.2.2))
  | [], h => by cases h
  | (b, s, i, r) :: l, h => by
    unfold amoAt at h
    split at h
    · rename_i e
      subst e; refine ⟨_, .head _, rfl, ?_⟩
      split at h
      · rename_i e; cases h; exact .inl ⟨e, rfl⟩
      · split at h
        · rename_i e; cases h; exact .inr (.inl ⟨e, rfl⟩)
        · split at h
          · rename_i e; cases h; exact .inr (.inr ⟨e, rfl⟩)
          · cases h
    · obtain ⟨r, hr, z⟩ := amoAt_mem h
      exact ⟨r, .tail _ hr, z⟩
theorem case_amo (hf : Fixed w B) {e : CE} (x : Str) (ha : PE w B n Γ e) : PE w B n Γ (.amo e x) := by
  refine st_plain (fun c ex σ v fl' S g s Q E hi hc he hg V q => ?_) fun c ex hi => ?_
  · obtain ⟨o, a, p, rfl, h⟩ := invE_amo hi
    simp only [Bool.and_eq_true, beq_iff_eq] at h; obtain ⟨⟨h1, h2⟩, rfl⟩ := h; unfold evE at he
    split at he
    · rename_i b fl₁ hb
      obtain ⟨z, hz, e⟩ := Option.map_eq_some_iff.mp he
      cases e
      refine eval_attr rfl h2 (ha.1 c o σ _ _ S g s _ E h1 hc hb hg V fun va s₁ V₁ k₁ r₁ => ?_)
      cases r₁
      have q' := (q.step k₁ : Post w B S g ⟨σ.loc, fl'⟩ s₁ _ _ Q)
      obtain ⟨r, hr, rfl, hx⟩ := amoAt_mem hz
      have hg' := List.all_eq_true.mp (amoAll w.params) _ hr
      have X : (KK w.params).In s₁.heap := (kIn hf).keeps V₁.stays
      unfold amoGood at hg'
      split at hg'
      · rename_i C dx sl ho
        rw [Bool.and_eq_true, beq_iff_eq] at hg'; obtain ⟨rfl, hg'⟩ := hg'
        split at hg'
        · rename_i od hod
          simp only [Bool.and_eq_true] at hg'
          have I := InstAt.of_K X ho hod
          rcases hx with ⟨rfl, rfl⟩ | ⟨rfl, rfl⟩ | ⟨rfl, rfl⟩
          · have hh := hg'.1.1
            unfold isStrV at hh
            split at hh
            · rename_i y t hy
              rw [beq_iff_eq] at hh; subst hh; exact get_value X I (amoGet _) hy rfl (q'.tk V₁ ⟨_, rfl⟩)
            · cases hh
          · have hh := hg'.1.2
            unfold isIntV at hh
            split at hh
            · rename_i y t hy
              rw [beq_iff_eq] at hh; subst hh; exact get_value X I (amoGet _) hy rfl (q'.tk V₁ ⟨_, rfl⟩)
            · cases hh
          · have hh := hg'.2
            unfold isIntV at hh
            split at hh
            · rename_i y t hy
              rw [beq_iff_eq] at hh; subst hh; exact get_value X I (amoGet _) hy rfl (q'.tk V₁ ⟨_, rfl⟩)
            · cases hh
        · cases hg'
      · cases hg'
    · cases he
  · obtain ⟨o, a, p, rfl, h⟩ := invE_amo hi; rfl
theorem selfIs_var {σ : AS} (h : selfIs σ = true) : σ.loc[0]? = some (some (.at .me)) := by
  unfold selfIs at h
  split at h
  · rename_i e; exact e
  · cases h
theorem self_ok {c : Cx} {e : Expr} {i : Nat} {σ : AS} {S : Sit} {g : Option Addr} {s : Shared} {Q : Value → Shared → Prop} {E : Value → Shared → Prop} (hi : isVar c i e = true) (hc : Ctx c S) (hg : Good n B S) (V : Inv w B S g σ s) (hs : σ.loc[i]? = some (some (.at .me)))
    (q : ∀ x dx, S.inst = some (x, dx) → Q (.ref x) s) : wpAny (model pw w) S.A (eval e S.env) Q E s := by
  obtain ⟨x, p, rfl, h1, h2⟩ := isVar_name hi; obtain ⟨y, val, e1, e2, e3⟩ := V.vars i _ hs; rw [hc.1, h1] at e1
  cases e1
  obtain ⟨a, dx, hI, rfl⟩ := e3; refine wpAny_Name ?_ h2
  rcases e2 with ⟨hk, m, hn, hm⟩ | ⟨hk, b, ha, o, ho, hd⟩
  · exact wpAny_loadName_local hg.kind hk hn hm (q _ _ hI)
  · exact wpAny_loadName_cell hg.kind hk ha ⟨o, ho, hd⟩ (q _ _ hI)
theorem case_fld (hf : Fixed w B) (i : Nat) : PE w B n Γ (.fld i) := by
  refine st_plain (fun c ex σ v fl' S g s Q E hi hc he hg V q => ?_) fun c ex hi => ?_
  · obtain ⟨o, a, p, rfl, h⟩ := invE_fld hi
    simp only [Bool.and_eq_true, beq_iff_eq] at h; obtain ⟨h1, h2⟩ := h
    have hn : notCall o = true := by obtain ⟨x, p, rfl, _⟩ := isVar_name h1; rfl
    unfold evE at he
    split at he
    · rename_i hs
      split at he
      · rename_i b hb
        cases he
        refine eval_attr rfl hn (self_ok (n := n) h1 hc hg V (selfIs_var hs) fun x dx hI => ?_)
        have J := V.inst x dx hI
        obtain ⟨mA, hns, hno, hfl⟩ := J.ns
        have hv := hfl i a h2
        rw [hb] at hv; obtain ⟨u, hu, ru, rp⟩ := hv; obtain ⟨o', es, ep, ho, hd, hk, huq, hfind⟩ := hns
        have I : InstAt s.heap x ⟨.ref 407, some dx, .plain, #[]⟩ 407 (some o') := ⟨J.obj, rfl, rfl, ho⟩
        have X : (KK w.params).In s.heap := (kIn hf).keeps V.stays
        have hm : a ∈ fnames := List.mem_of_getElem? h2
        have hG := List.all_eq_true.mp (fldAll w.params) _ hm
        unfold fldGood at hG
        split at hG
        · rename_i attr hat
          rw [Bool.and_eq_true] at hG
          have hl : lookIn a o' = some (some u) := by rw [lookIn_of hd hk, hfind a, hu]
          have hh : handedIn u = true := by
            unfold isPl at rp
            split at rp
            · obtain ⟨t, rfl⟩ := ru; rfl
            · obtain ⟨t, rfl⟩ := ru; rfl
            · cases ru; rfl
            · cases rp
          refine get_value X I (dutchGet _) (findObj_own (dutchDict _) hat hG.1 hl) hh (q.tk V ?_); show RepA S.inst b u; rw [hI]; exact ru
        · cases hG
      · cases he
    · cases he
  · obtain ⟨o, a, p, rfl, h⟩ := invE_fld hi; rfl
theorem isPairs_zip {env : Env} {pos : Pos} : ∀ {l : List (Str × Str)} {ks : List (Option Expr)} {vs : List Expr}, isPairs l ks vs = true →
    ∃ pairs : List (Sem Value × Sem Value), (evalEachOpt ks env).zip ((evalEach vs env).map fun v => do let x ← v; standAt pos; pure x) = pairs.map (fun p => (some p.1, p.2)) ∧ pairs.length = l.length ∧
      ∀ (acc : Unit) (A : Around) (s : Shared) (R : List (Value × Value) → Shared → Prop) (E : Value → Shared → Prop), (∀ vs kvs tk, Carries (strKind pw w) vs kvs → kvs.map (·.1) = l.map (·.1) → (∀ x, ∃ t, valueAt kvs x = (dictGet x l).map fun y => Value.str y t) → R vs { s with toks := tk }) → wpAny (model pw w) A (evalPairs pairs) R E s := by
  intro l
  induction l with
  | nil =>
    intro ks vs h
    unfold isPairs at h
    split at h
    · refine ⟨[], rfl, rfl, fun _ A s R E q => evalPairs_nil (q [] [] s.toks trivial rfl fun x => ⟨0, rfl⟩)⟩
    · rename_i he; cases he
    · cases h
  | cons p l ih =>
    intro ks vs h
    unfold isPairs at h
    split at h
    · rename_i he; cases he
    · rename_i x y l' k u1 u2 ks' v u3 u4 vs' he
      cases he
      simp only [Bool.and_eq_true, beq_iff_eq] at h; obtain ⟨⟨rfl, rfl⟩, h⟩ := h; obtain ⟨pairs, e1, e2, e3⟩ := ih h; refine ⟨(eval (.Constant (.str x) u1 u2) env, do let z ← eval (.Constant (.str y) u3 u4) env; standAt pos; pure z) :: pairs, ?_, by simp [e2], fun _ A s R E q => ?_⟩
      · show (some (eval _ env), _) :: _ = (some _, _) :: _
        rw [← e1]; rfl
      · refine evalPairs_cons (Calls.Constant_str (wpAny_bind (Calls.Constant_str (wpAny_bind (wpAny_standAt (wpAny_pure ?_))))))
        refine e3 () A _ _ E fun vs kvs tk hc hk hv => ?_
        refine q _ ((x, .str y (s.toks + 1)) :: kvs) tk ⟨strKind_is pw w x s.toks, rfl, hc⟩ (by simp [hk]) fun z => ?_
        by_cases hz : x = z
        · subst hz; exact ⟨s.toks + 1, by simp [valueAt, dictGet]⟩
        · obtain ⟨t, ht⟩ := hv z
          refine ⟨t, ?_⟩; unfold valueAt dictGet; rw [List.find?_cons, if_neg hz]; simp only [hz, decide_false]; exact ht
    · cases h
theorem merged_nodup {K : Type} [DecidableEq K] : ∀ (more acc : List (K × Value)), (more.map (·.1)).Nodup → (∀ k ∈ more.map (·.1), k ∉ acc.map (·.1)) → merged acc more = acc ++ more
  | [], acc, _, _ => by simp [merged]
  | (k, v) :: r, acc, hn, hd => by
    have h1 : stored acc k v = acc ++ [(k, v)] := by
      unfold stored; rw [if_neg]
      intro h
      obtain ⟨x, hx, e⟩ := List.any_eq_true.mp h; exact hd k (by simp) (List.mem_map.mpr ⟨x, hx, of_decide_eq_true e⟩)
    show merged (stored acc k v) r = _
    rw [List.map_cons, List.nodup_cons] at hn; rw [h1, merged_nodup r _ hn.2 fun j hj => ?_]
    · simp
    · rw [List.map_append, List.mem_append]
      rintro (h | h)
      · exact hd j (List.mem_cons_of_mem _ hj) h
      · simp at h; subst h; exact hn.1 hj
theorem case_dict (hf : Fixed w B) (l : List (Str × Str)) : PE w B n Γ (.dict l) := by
  refine st_plain (fun c ex σ v fl' S g s Q E hi hc he hg V q => ?_) fun c ex hi => ?_
  · obtain ⟨ks, vs, p, rfl, h⟩ := invE_dict hi
    simp only [Bool.and_eq_true, Bool.not_eq_true', decide_eq_true_eq] at h; obtain ⟨⟨⟨h1, h2⟩, h3⟩, h4⟩ := h; unfold evE at he; cases he; obtain ⟨pairs, e1, e2, e3⟩ := isPairs_zip (w := w) (env := S.env) (pos := p) h1; refine wpAny_Dict_pairs (knd := strKind pw w) e1 (fun z => ?_) (by omega) (e3 () _ _ _ _ fun vs kvs tk hcr hk hv => ⟨kvs, hcr, ?_, fun h' hm hs => ?_⟩)
    · subst z; simp at e2; cases l <;> simp at h2 e2
    · exact Heap.DictOf.new _
    · have hmm : merged [] kvs = kvs := by
        rw [merged_nodup kvs [] (by rw [hk]; exact h4) (by simp)]; rfl
      rw [hmm] at hm
      have hne : (s.heap.objs.size == sysModules) = false := by
        refine beq_eq_false_iff_ne.mpr fun e => ?_
        have h1 := V.stays _ _ (kIn hf 1 _ rfl)
        have := Heap.lt_size h1
        rw [e] at this; exact absurd this (by decide)
      refine q.keep V (fun b o e => ?_) ⟨_, rfl, fresh_g V (get_size _), fresh_apart V (get_size _), hne, _, hm.mapOf, hv⟩; exact hs.extBut b o (Nat.ne_of_lt (Heap.lt_size e)) (Heap.get?_push_of_some _ e)
  · obtain ⟨ks, vs, p, rfl, h⟩ := invE_dict hi; rfl
theorem repsV_own {fr : List Env} {I : Option (Addr × Addr)} {h : Heap} {vs : List AV} {vals : List Value} (r : RepsV w fr I none h vs vals) : RepsV w fr I none h vs vals := r
theorem gnone {S : Sit} {g : Option Addr} {σ : AS} {s : Shared} (V : Inv w B S g σ s) (h : hasOwn σ = false) : g = none := by
  cases g with
  | none => rfl
  | some a => have := (V.gown a rfl).1; rw [h] at this; cases this
theorem keepK {K : Frag} {f : Value} {h : Heap} (hk : keepIn K f = true) (X : K.In h) : ∃ k, (k = Keeper.frame ∨ k = Keeper.machine ∨ k = Keeper.boundFrame) ∧ Looks (model pw w) h (keeperOf f) k := keeps_K hk h X
theorem case_callG (hf : Fixed w B) (hk : CallOk w B n Γ) (f : Nat) {l : CA} (hl : PA w B n Γ l) : PE w B n Γ (.callG f l) := by
  refine st_plain (fun c ex σ v fl' S g s Q E hi hc he hg V q => ?_) fun c ex hi => ?_
  · obtain ⟨e, xs, p, rfl, h⟩ := invE_callG hi
    simp only [Bool.and_eq_true, decide_eq_true_eq] at h; obtain ⟨⟨h1, h2⟩, h25⟩ := h
    have hd := List.all_eq_true.mp (defAll w.params) f (by simp; omega)
    unfold defGood at hd
    split at h1
    · rename_i nm hnm
      rw [hnm] at hd; simp only [Bool.and_eq_true, beq_iff_eq] at hd; obtain ⟨p', rfl⟩ := isGlob_plain h1; unfold evE at he
      split at he
      · rename_i vs fl₁ hy
        split at he
        · cases he
        · rename_i ho
          rw [Bool.or_eq_true, not_or, Bool.not_eq_true, Bool.not_eq_true, Bool.not_eq_false'] at ho; obtain rfl := gnone V ho.2; rw [arm_eval_Call_Name']; refine wpAny_bind (glob_ok hf h1 hc hg V hd.1 ?_); refine callW (first := []) h2 (hl.1 c xs σ vs fl₁ S none s _ _ E h2 hc hy hg V fun vals s₁ V₁ k₁ r₁ => ⟨keepK hd.2 ((kIn hf).keeps V₁.stays), ?_⟩); refine hk f vs fl₁ v fl' he S s₁ vals Q E hg V₁.toHInv V₁.gens V₁.os ho.1 r₁ fun val s₂ H₂ k₂ g₂ o₂ r₂ => ?_
          exact q val s₂ ((V₁.kp H₂ k₂ g₂ o₂ : Inv w B S none ⟨σ.loc, fl'⟩ s₂)) (k₁.trans k₂) r₂
      · cases he
    · cases h1
  · obtain ⟨e, xs, p, rfl, h⟩ := invE_callG hi; rfl
theorem shadow_of {K : Frag} {h : Heap} {fr : List Env} {B : Heap} {x dx : Addr} {fl : FL} (J : InstOk fr B h x dx fl) {nm : Str} (hn : nm ∉ fnames) :
    ∃ o, InstAt h x ⟨.ref 407, some dx, .plain, #[]⟩ 407 (some o) ∧ shadowIn (some o) nm = some false := by
  obtain ⟨mA, ⟨o, es, ep, ho, hd, hk, _, hfind⟩, hno, _⟩ := J.ns; refine ⟨o, ⟨J.obj, rfl, rfl, ho⟩, ?_⟩; unfold shadowIn; simp only; rw [lookIn_of hd hk, hfind nm, hno nm hn]; rfl
theorem case_callM (hf : Fixed w B) (hk : CallOk w B n Γ) (i f : Nat) {l : CA} (hl : PA w B n Γ l) : PE w B n Γ (.callM i f l) := by
  refine st_plain (fun c ex σ v fl' S g s Q E hi hc he hg V q => ?_) fun c ex hi => ?_
  · obtain ⟨e, nm, ap, xs, p, rfl, h⟩ := invE_callM hi
    simp only [Bool.and_eq_true, beq_iff_eq, decide_eq_true_eq] at h; obtain ⟨⟨⟨⟨⟨h1, h2⟩, h3⟩, h4⟩, h5⟩, h25⟩ := h
    have hd := List.all_eq_true.mp (methAll w.params) f (by simp; omega)
    unfold methGood at hd; rw [h2] at hd; simp only [Bool.and_eq_true, Bool.not_eq_true', beq_iff_eq] at hd; obtain ⟨⟨⟨d1, d2⟩, d3⟩, d4⟩ := hd
    have hn : notCall e = true := by obtain ⟨x, p, rfl, _⟩ := isVar_name h1; rfl
    rw [arm_eval_Call, notCall_base hn]; unfold evE at he
    split at he
    · rename_i hs
      split at he
      · rename_i vs fl₁ hy
        split at he
        · cases he
        · rename_i ho
          rw [Bool.or_eq_true, not_or, Bool.not_eq_true, Bool.not_eq_true, Bool.not_eq_false'] at ho; obtain rfl := gnone V ho.2; refine wpAny_bind (self_ok (n := n) h1 hc hg V hs fun x dx hI => ?_); refine wpAny_bind (wpAny_standAt ?_)
          have J := V.inst x dx hI
          have X : (KK w.params).In s.heap := (kIn hf).keeps V.stays
          obtain ⟨o, I, hsh⟩ := shadow_of (K := KK w.params) J (nm := nm) (fun hm => by rw [List.contains_iff_mem.mpr hm] at d3; cases d3); refine meth_call (first := [.ref x]) (fv := .ref (fnAddr.getD f 0)) hl h3 h5 hc hg V hy (by simp [h4]) (fun pl R hr => method_fn X I (dutchGet _) (dutchHook _) d1 d2 hsh hr) (fun h hB => keepK d4 ((kIn hf).keeps hB)) fun vals s₁ V₁ k₁ r₁ => ?_
          refine hk f (.at .me :: vs) fl₁ v fl' he S s₁ (.ref x :: vals) Q E hg V₁.toHInv V₁.gens V₁.os (by rw [List.all_cons, ho.1]; rfl) (.cons ⟨x, dx, hI, rfl⟩ r₁) fun val s₂ H₂ k₂ g₂ o₂ r₂ => ?_
          exact q val s₂ ((V₁.kp H₂ k₂ g₂ o₂ : Inv w B S none ⟨σ.loc, fl'⟩ s₂)) (k₁.trans k₂) r₂
      · cases he
    · cases he
  · obtain ⟨e, nm, ap, xs, p, rfl, h⟩ := invE_callM hi; rfl
end
end Mine
namespace Mine
inductive ItIs (I : Option (Addr × Addr)) (g : Option Addr) (h : Heap) (a : Addr) : List Atom → Prop
  | list (ax : Addr) (vs : Array Value) (i : Nat) (l : List Atom) : h.IsListIter a ax i → h.IsList ax vs → ax ≠ a → g ≠ some ax → Reps I l vs.toList → ItIs I g h a (l.drop i)
  | ascii (x : Str) (t : Tok) (i : Nat) : h.IsStrIter a "str_ascii_iterator" x t i → ItIs I g h a ((x.cps.toList.drop i).map fun c => .str (chr1 c))
  | wide (x : Str) (t : Tok) (i : Nat) : h.IsStrIter a "str_iterator" x t i → ItIs I g h a ((x.cps.toList.drop i).map fun c => .str (chr1 c))
  | range (lo st : Int) (n : Nat) : IsRangeIter h a lo n st → ItIs I g h a ((List.range n).map fun (j : Nat) => .int (lo + st * (j : Int)))
theorem ItIs.keep {I : Option (Addr × Addr)} {g g' : Option Addr} {h h' : Heap} {a : Addr} {r : List Atom} (x : ItIs I g h a r) (k : ∀ o, h.get? a = some o → h'.get? a = some o)
    (kl : ∀ b o, h.get? b = some o → o.cls = .type "list" → (∃ vs n, o.data = .seq vs n) → g ≠ some b → ∃ sl, h'.get? b = some { o with slots := sl }) (hg : g' = g ∨ ∃ b, g' = some b ∧ h.get? b = none) : ItIs I g' h' a r := by
  cases x with
  | list ax vs i l h1 h2 h3 h4 h5 =>
    refine .list ax vs i l ?_ (isList_slots h2 fun o ho => kl ax o ho (by obtain ⟨o', e, c, _⟩ := h2; rw [ho] at e; cases e; exact c) (by obtain ⟨o', e, c, n, hd⟩ := h2; rw [ho] at e; cases e; exact ⟨_, n, hd⟩) h4) h3 ?_ h5
    · obtain ⟨o, ho, r⟩ := h1; exact ⟨o, k o ho, r⟩
    · rcases hg with rfl | ⟨b, rfl, hb⟩
      · exact h4
      · intro e; cases e; obtain ⟨o, ho, _⟩ := h2; rw [hb] at ho; cases ho
  | ascii x t i h1 => obtain ⟨o, ho, r⟩ := h1; exact .ascii x t i ⟨o, k o ho, r⟩
  | wide x t i h1 => obtain ⟨o, ho, r⟩ := h1; exact .wide x t i ⟨o, k o ho, r⟩
  | range lo st n h1 => exact .range lo st n (k _ h1)
section
variable {w : World} {B : Heap} {n : Nat} {Γ : Call} {S : Sit} {g : Option Addr} {σ : AS} {s : Shared} {E : Value → Shared → Prop}
theorem next_some {A : Around} {I : Option (Addr × Addr)} {a : Addr} {x : Atom} {r : List Atom} {Q : Option Value → Shared → Prop} (h : ItIs I g s.heap a (x :: r))
    (q : ∀ v h' tk, RepA I x v → ItIs I g h' a r → Heap.SameBut a s.heap h' → Q (some v) { s with heap := h', toks := tk }) : wpAny (model pw w) A (pyNext (.ref a)) Q E s := by
  generalize hl : x :: r = l at h
  cases h with
  | list ax vs i l h1 h2 h3 h4 h5 =>
    have hx : l[i]? = some x := by
      have := congrArg (·[0]?) hl
      simpa using this.symm
    have hr : r = l.drop (i + 1) := by
      have := congrArg List.tail hl
      simpa using this
    obtain ⟨v, hv, rv⟩ := h5.get hx; refine wpAny_pyNext_list_item h1 h2 (x := v) (by simpa using hv) fun h' hi hs => q v h' s.toks rv ?_ hs
    rw [hr]; exact .list ax vs (i + 1) l hi (let ⟨o, ho, r⟩ := h2; ⟨o, (hs.2 ax h3).trans ho, r⟩) h3 h4 h5
  | ascii y t i h1 =>
    cases hd : y.cps.toList.drop i with
    | nil => rw [hd] at hl; cases hl
    | cons c cs =>
      rw [hd] at hl
      cases hl
      have hc : y.cps[i]? = some c := by
        have := congrArg (·[0]?) hd
        simpa using this
      have hcs : cs = y.cps.toList.drop (i + 1) := by
        have := congrArg List.tail hd
        simpa using this.symm
      refine wpAny_pyNext_ascii_item h1 hc fun h' hi hs => q _ h' _ ⟨_, rfl⟩ ?_ hs
      rw [hcs]; exact .ascii y t (i + 1) hi
  | wide y t i h1 =>
    cases hd : y.cps.toList.drop i with
    | nil => rw [hd] at hl; cases hl
    | cons c cs =>
      rw [hd] at hl
      cases hl
      have hc : y.cps[i]? = some c := by
        have := congrArg (·[0]?) hd
        simpa using this
      have hcs : cs = y.cps.toList.drop (i + 1) := by
        have := congrArg List.tail hd
        simpa using this.symm
      refine wpAny_pyNext_wide_item h1 hc fun h' hi hs => q _ h' _ ⟨_, rfl⟩ ?_ hs
      rw [hcs]; exact .wide y t (i + 1) hi
  | range lo st k h1 =>
    cases k with
    | zero => simp at hl
    | succ k =>
      rw [List.range_succ_eq_map] at hl; simp only [List.map_cons, List.map_map, List.cons.injEq] at hl; obtain ⟨rfl, rfl⟩ := hl; refine wpAny_pyNext_range_item h1 (by omega) fun h' hi hs => q _ h' _ ⟨s.toks, by simp⟩ ?_ hs
      · have e : (List.range k).map ((fun (j : Nat) => Atom.int (lo + st * (j : Int))) ∘ Nat.succ) = (List.range k).map fun (j : Nat) => Atom.int ((lo + st) + st * (j : Int)) := by
          refine List.map_congr_left fun j _ => ?_
          simp only [Function.comp]
          congr 1
          rw [Nat.succ_eq_add_one]
          push_cast
          rw [Int.mul_add]; omega
        rw [e]; refine .range (lo + st) st k ?_
        have : ((k + 1 : Nat) : Int) - 1 = (k : Int) := by omega
        rw [this] at hi; exact hi
theorem next_none {A : Around} {I : Option (Addr × Addr)} {a : Addr} {Q : Option Value → Shared → Prop} (hh : A.handled = none) (h : ItIs I g s.heap a [])
    (q : ∀ h' tk, Heap.ExtBut a s.heap h' → Q none { s with heap := h', toks := tk }) : wpAny (model pw w) A (pyNext (.ref a)) Q E s := by
  generalize hl : ([] : List Atom) = l at h
  cases h with
  | list ax vs i l h1 h2 h3 h4 h5 =>
    have : vs.size ≤ i := by
      have := List.drop_eq_nil_iff.mp hl.symm
      rw [← Array.length_toList, h5.len]; exact this
    exact wpAny_pyNext_list_end hh h1 h2 (by simp; omega) fun h' he => q h' s.toks he
  | ascii y t i h1 =>
    have : y.cps.size ≤ i := by
      have := List.map_eq_nil_iff.mp hl.symm
      simpa using List.drop_eq_nil_iff.mp this
    exact wpAny_pyNext_ascii_end hh h1 (by simp; omega) fun h' he => q h' s.toks he
  | wide y t i h1 =>
    have : y.cps.size ≤ i := by
      have := List.map_eq_nil_iff.mp hl.symm
      simpa using List.drop_eq_nil_iff.mp this
    exact wpAny_pyNext_wide_end hh h1 (by simp; omega) fun h' he => q h' s.toks he
  | range lo st k h1 =>
    cases k with
    | zero => exact wpAny_pyNext_range_end hh h1 (by simp) fun h' he => q h' s.toks he
    | succ k => rw [List.range_succ_eq_map] at hl; simp at hl
theorem range_small {a b c : Int} (ha : rgOk a = true) (hb : rgOk b = true) (hc : c = 1 ∨ c = -1) : Builtin.Range.small a b c = true := by
  simp only [rgOk, Bool.and_eq_true, decide_eq_true_eq] at ha hb; unfold Builtin.Range.small Builtin.Range.rangeFitsLong Builtin.Range.rangeSize
  rcases hc with rfl | rfl
  · simp only [show (1 : Int) > 0 by decide, if_true, Bool.and_eq_true, Bool.or_eq_true, decide_eq_true_eq, beq_iff_eq]
    split <;> omega
  · simp only [show ¬ ((-1 : Int) > 0) by decide, if_false, Int.neg_neg, Int.ediv_one, Bool.and_eq_true, Bool.or_eq_true, decide_eq_true_eq, beq_iff_eq]
    split <;> omega
theorem iter_ok {v : AV} {its : List Atom} {a : Value} {Q : Value → Shared → Prop} (e : iterV v = some its) (V : Inv w B S g σ s) (r : Rep w S.fr S.inst g s.heap v a)
    (q : ∀ I h', ItIs S.inst g h' I its → (∀ b o, s.heap.get? b = some o → h'.get? b = some o) → s.heap.get? I = none → Q (.ref I) { s with heap := h' }) : wpAny (model pw w) S.A (pyIter a) Q E s := by
  unfold iterV at e
  split at e
  · rename_i l
    obtain ⟨b, vs, rfl, hg, hl, r1⟩ := r
    split at e
    · cases e
      refine wpAny_pyIter_list hl (q _ _ ?_ (fun _ _ e => Heap.get?_push_of_some _ e) (get_size _))
      have hb : b ≠ s.heap.objs.size := by obtain ⟨o, ho, _⟩ := hl; exact Nat.ne_of_lt (Heap.lt_size ho)
      exact .list b vs 0 _ ⟨_, Heap.get?_push_size _ rfl, rfl, rfl⟩ (hl.push _) hb hg r1
    · cases e
  · rename_i x
    obtain ⟨t, rfl⟩ := r
    split at e
    · cases e
      refine wpAny_pyIter_strU (q _ _ ?_ (fun _ _ e => Heap.get?_push_of_some _ e) (get_size _)); unfold strIterType
      split
      · have := ItIs.ascii (I := S.inst) (g := g) (h := s.heap.push { cls := .type "str_ascii_iterator", data := .fields #[.str x t, .int 0 0] }) (a := s.heap.objs.size) x t 0 ⟨_, Heap.get?_push_size _ rfl, rfl, rfl⟩
        simpa using this
      · have := ItIs.wide (I := S.inst) (g := g) (h := s.heap.push { cls := .type "str_iterator", data := .fields #[.str x t, .int 0 0] }) (a := s.heap.objs.size) x t 0 ⟨_, Heap.get?_push_size _ rfl, rfl, rfl⟩
        simpa using this
    · cases e
  · rename_i lo hi st
    split at e
    · rename_i hr
      obtain ⟨l, hl, rfl⟩ := Option.map_eq_some_iff.mp e; obtain ⟨b, rfl, hg, hap, t, u, x, ho⟩ := r; rw [Bool.and_eq_true] at hr; unfold rangeInts at hl
      split at hl
      · rename_i h1
        subst h1
        split at hl
        · cases hl
          refine wpAny_pyIter_range ho (range_small hr.1 hr.2 (.inl rfl)) (q _ _ ?_ (fun _ _ e => Heap.get?_push_of_some _ e) (get_size _))
          have e1 : Builtin.Range.rangeSize lo hi 1 = ((hi - lo).toNat : Nat) := by
            rw [rangeSize_one]; split <;> omega
          rw [e1]
          have := ItIs.range (I := S.inst) (g := g) (h := s.heap.push { cls := .type "range_iterator", data := .fields #[rawInt lo, rawInt ((hi - lo).toNat : Nat), rawInt 1] }) (a := s.heap.objs.size) lo 1 (hi - lo).toNat (Heap.get?_push_size _ rfl)
          have e2 : (List.range (hi - lo).toNat).map (fun (j : Nat) => Atom.int (lo + 1 * (j : Int))) = List.map Atom.int (List.map (fun (k : Nat) => lo + (k : Int)) (List.range (hi - lo).toNat)) := by
            rw [List.map_map]; refine List.map_congr_left fun j _ => ?_
            simp only [Function.comp]; congr 1; omega
          rw [e2] at this; exact this
        · cases hl
      · split at hl
        · rename_i h1
          subst h1
          split at hl
          · cases hl
            refine wpAny_pyIter_range ho (range_small hr.1 hr.2 (.inr rfl)) (q _ _ ?_ (fun _ _ e => Heap.get?_push_of_some _ e) (get_size _))
            have e1 : Builtin.Range.rangeSize lo hi (-1) = ((lo - hi).toNat : Nat) := by
              unfold Builtin.Range.rangeSize; simp only [show ¬ ((-1 : Int) > 0) by decide, if_false, Int.neg_neg, Int.ediv_one]
              split <;> omega
            rw [e1]
            have := ItIs.range (I := S.inst) (g := g) (h := s.heap.push { cls := .type "range_iterator", data := .fields #[rawInt lo, rawInt ((lo - hi).toNat : Nat), rawInt (-1)] }) (a := s.heap.objs.size) lo (-1) (lo - hi).toNat (Heap.get?_push_size _ rfl)
            have e2 : (List.range (lo - hi).toNat).map (fun (j : Nat) => Atom.int (lo + -1 * (j : Int))) = List.map Atom.int (List.map (fun (k : Nat) => lo - (k : Int)) (List.range (lo - hi).toNat)) := by
              rw [List.map_map]; refine List.map_congr_left fun j _ => ?_
              simp only [Function.comp]; congr 1; omega
            rw [e2] at this; exact this
          · cases hl
        · cases hl
    · cases e
  · cases e
end
end Mine
namespace Mine
structure Free (B : Heap) (fr : List Env) (I : Option (Addr × Addr)) (a : Addr) : Prop where
  b : B.get? a = none
  f : a ∉ frA fr
  i : ∀ x dx, I = some (x, dx) → a ≠ x ∧ a ≠ dx
theorem Free.of {B h : Heap} {fr : List Env} {I : Option (Addr × Addr)} {fl : FL} {a : Addr} (H : HInv B fr I fl h) (e : h.get? a = none) : Free B fr I a := by
  refine ⟨?_, fun m => ?_, fun x dx hI => ⟨?_, ?_⟩⟩
  · cases q : B.get? a with
    | none => rfl
    | some o => have := H.stays a o q; rw [e] at this; cases this
  · obtain ⟨_, o, ho, _⟩ := H.frs.mem m
    rw [e] at ho; cases ho
  · rintro rfl; have := (H.inst a dx hI).obj; rw [e] at this; cases this
  · rintro rfl; obtain ⟨o, _, _, ho, _⟩ := (H.inst x a hI).dcl; rw [e] at ho; cases ho
theorem Free.dl {B : Heap} {fr : List Env} {I : Option (Addr × Addr)} {a : Addr} (F : Free B fr I a) : a ∉ Mine.dl I := fun m => by
  obtain ⟨x, hI⟩ := mem_dl m; exact (F.i x a hI).2 rfl
theorem HInv.but {B h h' : Heap} {fr : List Env} {I : Option (Addr × Addr)} {fl : FL} {a : Addr} (H : HInv B fr I fl h) (F : Free B fr I a) (k : ∀ b o, b ≠ a → h.get? b = some o → h'.get? b = some o) : HInv B fr I fl h' :=
  ⟨fun b o e => k b o (fun q => by rw [q, F.b] at e; cases e) (H.stays b o e),
   frs_keep (fun b o e hm => ⟨o.slots, k b o (fun q => F.f (q ▸ hm)) e⟩) (fun _ h => h) H.frs,
   fun x dx q => (H.inst x dx q).keep (fun o => k x o (Ne.symm (F.i x dx q).1)) (fun o => k dx o (Ne.symm (F.i x dx q).2))⟩
section
variable {w : World} {B : Heap} {n : Nat} {Γ : Call} {S : Sit} {g : Option Addr} {σ : AS} {s : Shared} {E : Value → Shared → Prop}
theorem iter_self {A : Around} {I : Option (Addr × Addr)} {a : Addr} {r : List Atom} {Q : Value → Shared → Prop} (hh : A.handled = none) (h : ItIs I g s.heap a r) (q : Q (.ref a) s) : wpAny (model pw w) A (pyIter (.ref a)) Q E s := by
  cases h with
  | list ax vs i l h1 h2 h3 h4 h5 => exact (Walks.list hh a ax h3 vs).self i s Q E ⟨h1, h2⟩ q
  | ascii x t i h1 => exact (Walks.strAscii hh a x t).self i s Q E h1 q
  | wide x t i h1 => exact (Walks.strWide hh a x t).self i s Q E h1 q
  | range lo st k h1 => exact (Walks.range hh a lo st k).self 0 s Q E (by simpa using h1) q
def clFold (env : Env) : List (Str × NameKind) → List (Str × Addr) → List (Str × Addr)
  | [], acc => acc
  | (x, k) :: r, acc => if k == .free then clFold env r ((x, (env.cells.lookup x).getD 0) :: acc) else clFold env r acc
theorem closure_is {sc : Scope} {env : Env} (h : ∀ x ∈ sc.names, x.2 = .free → (env.cells.lookup x.1).isSome = true) : closureFor sc env = pure (clFold env sc.names []) := by
  unfold closureFor
  have : ∀ (l : List (Str × NameKind)) (acc : List (Str × Addr)), (∀ x ∈ l, x.2 = .free → (env.cells.lookup x.1).isSome = true) →
      (forIn l acc fun (x : Str × NameKind) (cs : List (Str × Addr)) => (do
        if x.2 == .free then do
          let c ← cellOf env x.1
          pure (ForInStep.yield ((x.1, c) :: cs))
        else pure (ForInStep.yield cs) : Sem (ForInStep (List (Str × Addr))))) = pure (clFold env l acc) := by
    intro l
    induction l with
    | nil => intro acc _; rfl
    | cons x l ih =>
      intro acc hx
      obtain ⟨y, k⟩ := x; rw [List.forIn_cons]; unfold clFold
      by_cases hk : (k == NameKind.free) = true
      · have hs := hx (y, k) (.head _) (beq_iff_eq.mp hk)
        obtain ⟨c, hc⟩ := Option.isSome_iff_exists.mp hs; rw [if_pos hk]; simp only [hk, if_true]
        have e : cellOf env y = pure c := by unfold cellOf; rw [hc]
        rw [e]; simp only [hc, Option.getD_some]; exact ih _ fun z hz => hx z (.tail _ hz)
      · rw [if_neg hk]
        simp only [hk, Bool.false_eq_true, if_false]; exact ih _ fun z hz => hx z (.tail _ hz)
  have e := this sc.names [] h
  refine Eq.trans ?_ e; refine (bind_pure (m := Sem) _).trans ?_
  congr 1
theorem clFold_lookup {env : Env} {x : Str} {c : Addr} (hx : env.cells.lookup x = some c) : ∀ (l : List (Str × NameKind)) (acc : List (Str × Addr)), ((∃ p ∈ l, p.1 = x ∧ p.2 = .free) ∨ acc.lookup x = some c) → (clFold env l acc).lookup x = some c
  | [], acc, h => by
    rcases h with ⟨p, hp, _⟩ | h
    · cases hp
    · exact h
  | (y, k) :: r, acc, h => by
    unfold clFold
    by_cases hk : (k == NameKind.free) = true
    · rw [if_pos hk]
      refine clFold_lookup hx r _ ?_
      by_cases hy : y = x
      · right; subst hy; simp [hx]
      · rcases h with ⟨p, hp, h1, h2⟩ | h
        · cases hp with
          | head => exact absurd h1 hy
          | tail _ hp => exact .inl ⟨p, hp, h1, h2⟩
        · right
          rw [List.lookup_cons, beq_eq_false_iff_ne.mpr (Ne.symm hy)]; exact h
    · rw [if_neg hk]
      refine clFold_lookup hx r _ ?_
      rcases h with ⟨p, hp, h1, h2⟩ | h
      · cases hp with
        | head => exact absurd (by have h3 : k = .free := h2; rw [h3]; rfl) hk
        | tail _ hp => exact .inl ⟨p, hp, h1, h2⟩
      · exact .inr h
theorem kinds_relabel {c : Cx} {t : Str} {caps : List Nat} {sc : Scope} {S : Sit} (hc : Ctx c S) (hk : S.env.scope.kind = .function) : (relabel sc S.env).names = (compCx c t caps sc).kinds := by
  unfold relabel compCx; refine List.map_congr_left fun x _ => ?_
  obtain ⟨n, k⟩ := x; simp only [Env.kindOf, hc.2, hk, beq_self_eq_true, Bool.and_true]
theorem evMap_if (f : Atom → FL → Option (AV × FL)) : ∀ (l : List Atom) (fl : FL), evMap f l fl = evMapIf f (fun _ fl => some (true, fl)) l fl
  | [], fl => rfl
  | a :: r, fl => by
    unfold evMap evMapIf; simp only
    cases h : f a fl with
    | none => rfl
    | some p =>
      obtain ⟨v, fl'⟩ := p
      cases v <;> first | rfl | (simp only; rw [evMap_if f r])
def compSit (S : Sit) (c : Cx) (t : Str) (caps : List Nat) (sc : Scope) (C : Addr) : Sit :=
  { S with env := compEnvC sc (clFold S.env sc.names []) C S.env, names := (compCx c t caps sc).names }
theorem comp_ctx {c : Cx} {t : Str} {caps : List Nat} {sc : Scope} {C : Addr} (hc : Ctx c S) (hk : S.env.scope.kind = .function) : Ctx (compCx c t caps sc) (compSit S c t caps sc C) := ⟨rfl, kinds_relabel hc hk⟩
theorem comp_good {c : Cx} {t : Str} {caps : List Nat} {sc : Scope} {C : Addr} (hg : Good n B S) (hk : sc.kind = .function) (hn : (compCx c t caps sc).names.Nodup) (hC : B.get? C = none) : Good n B (compSit S c t caps sc C) :=
  ⟨hg.stack, hg.handled, hg.depth, hg.units, hk, hg.globals, hg.builtins, hn, hC⟩
theorem Kp.fresh {fr : List Env} {D : List Addr} {h0 h h' : Heap} {a : Addr} (K : Kp fr D h0 h) (ha : h0.get? a = none) (k : ∀ b o, b ≠ a → h.get? b = some o → h'.get? b = some o) : Kp fr D h0 h' :=
  ⟨fun b o e hd hf => k b o (by rintro rfl; rw [ha] at e; cases e) (K.exact b o e hd hf),
   fun b o e hd => let ⟨sl, e'⟩ := K.slots b o e hd; ⟨sl, k b _ (by rintro rfl; rw [ha] at e; cases e) e'⟩⟩
theorem capsOf_get : ∀ {caps : List Nat} {σ : AS} {cs : List AV}, capsOf caps σ = some cs → ∀ {j : Nat} {v : AV}, cs[j]? = some v → ∃ i, caps[j]? = some i ∧ σ.loc[i]? = some (some v)
  | [], σ, cs, h, j, v, e => by cases h; simp at e
  | i :: r, σ, cs, h, j, v, e => by
    unfold capsOf at h
    split at h
    · rename_i u hu
      obtain ⟨l, hl, rfl⟩ := Option.map_eq_some_iff.mp h
      cases j with
      | zero => simp at e; subst e; exact ⟨i, rfl, hu⟩
      | succ j => simpa using capsOf_get hl (by simpa using e)
    · cases h
theorem capsOf_len : ∀ {caps : List Nat} {σ : AS} {cs : List AV}, capsOf caps σ = some cs → cs.length = caps.length
  | [], σ, cs, h => by cases h; rfl
  | i :: r, σ, cs, h => by
    unfold capsOf at h
    split at h
    · obtain ⟨l, hl, rfl⟩ := Option.map_eq_some_iff.mp h
      simp [capsOf_len hl]
    · cases h
theorem comp_core {c : Cx} {t : Str} {px pos : Pos} {caps : List Nat} {cs : List AV} {sc : Scope} {ifs : List Expr} {ex it : Expr} {f : Atom → FL → Option (AV × FL)} {ct : Atom → FL → Option (Bool × FL)} {I : Addr} {its l : List Atom} {fl fl' : FL}
    {RR : Value → Addr → Result → Shared → Prop} {σ₀ : List (Option AV)} {s₀ : Shared}
    (hc : Ctx c S) (hg : Good n B S) (V : Inv w B S none ⟨σ₀, fl⟩ s₀) (hk0 : ∀ b o, s₀.heap.get? b = some o → s.heap.get? b = some o) (hI0 : s₀.heap.get? I = none) (hgens : s.gens = #[]) (hos : s.os = S.os) (hcs : capsOf caps ⟨σ₀, fl⟩ = some cs) (hscope : scOk c t caps sc = true) (hkind : sc.kind = .function) (hx : sc.names.lookup t = some .local)
    (hit : ItIs S.inst none s.heap I its) (he : evMapIf f ct its fl = some (l, fl')) (hsm : its.length ≤ sizeLine)
    (hE : ∀ a fl v fl' C, f a fl = some (v, fl') → Good n B (compSit S c t caps sc C) → ∀ (s₂ : Shared) (Q : Value → Shared → Prop) (E : Value → Shared → Prop), Inv w B (compSit S c t caps sc C) none ⟨some (.at a) :: cs.map some, fl⟩ s₂ →
      Post w B (compSit S c t caps sc C) none ⟨some (.at a) :: cs.map some, fl⟩ s₂ fl' v Q → wpAny (model pw w) S.A (eval ex (compSit S c t caps sc C).env) Q E s₂)
    (hT : ∀ a fl b fl' C, ct a fl = some (b, fl') → Good n B (compSit S c t caps sc C) → ∀ (s₂ : Shared) (Q : Bool → Shared → Prop) (E : Value → Shared → Prop), Inv w B (compSit S c t caps sc C) none ⟨some (.at a) :: cs.map some, fl⟩ s₂ →
      PostB w B (compSit S c t caps sc C) none ⟨some (.at a) :: cs.map some, fl⟩ s₂ fl' b Q →
      wpAny (model pw w) S.A (forIn ifs true fun cd r => if r = true then do let ok ← isTrue cd (compSit S c t caps sc C).env (eval cd (compSit S c t caps sc C).env); pure (ForInStep.yield ok) else pure (ForInStep.yield r)) Q E s₂)
    (q : ∀ D C s' (ys : Array Value), s'.heap.IsList D ys → Reps S.inst l ys.toList → HInv B S.fr S.inst fl' s'.heap → Kp S.fr (dl S.inst) s₀.heap s'.heap → s₀.heap.get? D = none → s₀.heap.get? C = none → D ≠ C → (∃ m, s'.heap.Ns C m) → s'.gens = #[] → s'.os = S.os → RR (.ref D) C (.ok .next) s') :
    wpAny (model pw w) S.A (newList []) (fun acc s₃ => wpAny (model pw w) S.A (newFunctionEnv sc S.env.globals (clFold S.env sc.names []) [] S.env.qual none .none (some S.env)) (fun cenv s₄ =>
      codeAny (model pw w) S.A (.compStart (.ListComp ex [⟨.Name t px, it, ifs, 0⟩] sc pos) 0 (.ref I) acc { cenv with scope := relabel sc S.env }) (RR acc cenv.locals) s₄) E s₃) E s := by
  simp only [scOk, Bool.and_eq_true, List.all_eq_true, decide_eq_true_eq] at hscope; obtain ⟨⟨⟨⟨sc1, sc2⟩, sc3⟩, sc4⟩, sc5⟩ := hscope
  have hcell : ∀ y ∈ sc.names, y.2 ≠ .cell := fun y hy e => by
    have := (sc1 y hy).1; rw [e] at this; simp at this
  have hI : Free B S.fr S.inst I := .of V.toHInv hI0
  have H0 : HInv B S.fr S.inst fl s.heap := V.toHInv.keep hk0
  refine wpAny_newObj_type (wpAny_newFunctionEnv hcell (by intro y hy; simp at hy) (fun h₁ hns₁ hsb₁ => ?_) hkind)
  dsimp only at hns₁ hsb₁ ⊢
  generalize hH2 : s.heap.push { cls := .type "list", dict := none, data := .seq ([] : List Value).toArray } = H2 at hns₁ hsb₁ ⊢
  have hC : H2.objs.size = s.heap.objs.size + 1 := by rw [← hH2, Heap.size_push]
  generalize hDd : s.heap.objs.size = D at hC hns₁ hsb₁ ⊢; generalize hCd : H2.objs.size = C at hC hns₁ hsb₁ ⊢
  have hDC : D ≠ C := by omega
  have sD : s.heap.get? D = none := by rw [← hDd]; exact get_size _
  have sC : s.heap.get? C = none := Heap.get?_none_of_le (by omega)
  have fresh0 : ∀ a, s.heap.get? a = none → s₀.heap.get? a = none := fun a e => by
    cases h : s₀.heap.get? a with
    | none => rfl
    | some o => have := hk0 a o h; rw [e] at this; cases this
  have FD : Free B S.fr S.inst D := .of V.toHInv (fresh0 _ sD)
  have FC : Free B S.fr S.inst C := .of V.toHInv (fresh0 _ sC)
  have sI : ∃ o, s.heap.get? I = some o := by
    cases hit with
    | list ax vs i l h1 => obtain ⟨o, ho, _⟩ := h1; exact ⟨o, ho⟩
    | ascii x t i h1 => obtain ⟨o, ho, _⟩ := h1; exact ⟨o, ho⟩
    | wide x t i h1 => obtain ⟨o, ho, _⟩ := h1; exact ⟨o, ho⟩
    | range lo st k h1 => exact ⟨_, h1⟩
  have hID : I ≠ D := by rintro rfl; obtain ⟨o, ho⟩ := sI; rw [sD] at ho; cases ho
  have hIC : I ≠ C := by rintro rfl; obtain ⟨o, ho⟩ := sI; rw [sC] at ho; cases ho
  have old : ∀ b o, s.heap.get? b = some o → h₁.get? b = some o := fun b o e => hsb₁.extBut b o (by rintro rfl; rw [sC] at e; cases e) (Heap.get?_push_of_some _ (hH2 ▸ Heap.get?_push_of_some _ e))
  have hacc : h₁.IsList D #[] := ⟨_, hsb₁.extBut _ _ hDC (Heap.get?_push_of_some _ (by rw [← hH2, ← hDd]; exact Heap.get?_push_size _ rfl)), rfl, 0, rfl⟩
  have hGood : Good n B (compSit S c t caps sc C) := comp_good hg hkind sc5 FC.b
  have hCtx : Ctx (compCx c t caps sc) (compSit S c t caps sc C) := comp_ctx hc hg.kind
  have hloc : (compSit S c t caps sc C).env.kindOf t = some .local := lookup_relabel_local hx
  have inner : ∀ (s' : Shared) (a : Atom) (v : Value) (fl₁ : FL) (m : Str → Option Value), HInv B S.fr S.inst fl₁ s'.heap → Kp S.fr (dl S.inst) s₀.heap s'.heap → s'.heap.Ns C m → m t = some v → RepA S.inst a v → s'.gens = #[] → s'.os = S.os →
      Inv w B (compSit S c t caps sc C) none ⟨some (.at a) :: cs.map some, fl₁⟩ s' := by
    intro s' a v fl₁ m H K hn hm ra h1 h2
    refine { toHInv := H, loc := ⟨m, hn⟩, vars := fun j u hu => ?_, dr := fun j u hu => ?_, len := ?_, ld := FC.dl, gown := (fun _ e => by cases e), gens := h1, os := h2 }
    · cases j with
      | zero =>
        simp at hu; subst hu; exact ⟨t, v, rfl, .inl ⟨hloc, m, hn, hm⟩, ra⟩
      | succ j =>
        have hu' : cs[j]? = some u := by simpa using hu
        obtain ⟨i, hi, hli⟩ := capsOf_get hcs hu'; obtain ⟨x, val, e1, e2, e3⟩ := V.vars i u hli
        have e2' := e2.kp V.toHInv V.ld K
        have hcap := sc3 i (List.mem_of_getElem? hi)
        have hxn : c.names.getD i Str.empty = x := by
          rw [hc.1] at e1; rw [List.getD_eq_getElem?_getD, e1]; rfl
        simp only [Bool.and_eq_true, beq_iff_eq, decide_eq_true_eq] at hcap; rw [hxn] at hcap; obtain ⟨⟨k1, k2⟩, _⟩ := hcap; refine ⟨x, val, ?_, .inr ⟨?_, ?_⟩, e3.kp V.toHInv K⟩
        · show (t :: caps.map fun i => c.names.getD i Str.empty)[j + 1]? = some x
          rw [List.getElem?_cons_succ, List.getElem?_map, hi, Option.map_some, hxn]
        · show (relabel sc S.env).names.lookup x = some .cell
          rw [kinds_relabel (t := t) (caps := caps) hc hg.kind]; exact k1
        · rcases e2' with ⟨hl, _⟩ | ⟨hl, b, hb, ho⟩
          · exfalso
            unfold Env.kindOf at hl; rw [hc.2, k2] at hl; cases hl
          · refine ⟨b, ?_, ho⟩
            show (clFold S.env sc.names []).lookup x = some b
            refine clFold_lookup hb _ _ (.inl ?_)
            have hk1 : (compCx c t caps sc).kinds.lookup x = some .cell := k1
            have : ∀ (ns : List (Str × NameKind)), (∀ y ∈ ns, y.2 ≠ .cell) → (ns.map fun (n, k) => if (k == .free && c.kinds.lookup n == some .cell) then (n, NameKind.cell) else (n, k)).lookup x = some .cell → ∃ p ∈ ns, p.1 = x ∧ p.2 = .free := by
              intro ns
              induction ns with
              | nil => intro _ h; cases h
              | cons p ns ih =>
                obtain ⟨y, k⟩ := p
                intro hnc h
                rw [List.map_cons, List.lookup_cons] at h
                by_cases hk : (k == NameKind.free && c.kinds.lookup y == some .cell) = true
                · rw [if_pos hk] at h
                  by_cases hy : x = y
                  · rw [Bool.and_eq_true, beq_iff_eq] at hk
                    exact ⟨_, .head _, hy.symm, hk.1⟩
                  · rw [beq_eq_false_iff_ne.mpr hy] at h
                    obtain ⟨p, hp, z⟩ := ih (fun y hy => hnc y (.tail _ hy)) h; exact ⟨p, .tail _ hp, z⟩
                · rw [if_neg hk] at h
                  by_cases hy : x = y
                  · subst hy
                    simp at h; exact absurd h (hnc (x, k) (.head _))
                  · rw [beq_eq_false_iff_ne.mpr hy] at h
                    obtain ⟨p, hp, z⟩ := ih (fun y hy => hnc y (.tail _ hy)) h; exact ⟨p, .tail _ hp, z⟩
            exact this sc.names hcell hk1
    · cases j with
      | zero => simp at hu; subst hu; rfl
      | succ j =>
        have hu' : cs[j]? = some u := by simpa using hu
        obtain ⟨i, hi, hli⟩ := capsOf_get hcs hu'; exact V.dr i u hli
    · show (some (.at a) :: cs.map some).length = (t :: caps.map fun i => c.names.getD i Str.empty).length
      simp [capsOf_len hcs]
  have loop : ∀ s₁ : Shared, s₁.heap = h₁ → s₁.gens = #[] → s₁.os = S.os →
      codeAny (model pw w) S.A (.compLoop (.ListComp ex [⟨.Name t px, it, ifs, 0⟩] sc pos) 0 (.ref I) (.ref D) (compSit S c t caps sc C).env) (RR (.ref D) C) s₁ := by
    intro s₁ e1 e2 e3
    have hitk : ItIs S.inst (some D) h₁ I its := hit.keep (fun o => old I o) (fun b o e _ _ _ => ⟨o.slots, old b o e⟩) (.inr ⟨D, rfl, sD⟩)
    refine codeAny_compLoop_tests (fun k s' => ∃ rest acc l2 fl₁ ys, evMapIf f ct rest fl₁ = some (l2, fl') ∧ l = acc ++ l2 ∧ ItIs S.inst (some D) s'.heap I rest ∧ s'.heap.IsList D ys ∧ Reps S.inst acc ys.toList ∧ HInv B S.fr S.inst fl₁ s'.heap ∧ Kp S.fr (dl S.inst) s₀.heap s'.heap ∧
      (∃ m, s'.heap.Ns C m) ∧ acc.length + rest.length ≤ its.length ∧ k = rest.length + 1 ∧ s'.gens = #[] ∧ s'.os = S.os) ?_ (its.length + 1)
      ⟨its, [], l, fl, #[], he, rfl, by rw [e1]; exact hitk, by rw [e1]; exact hacc, by simpa using Reps.nil, by rw [e1]; exact H0.keep old, by rw [e1]; exact .of_keep fun b o e => old b o (hk0 b o e), by rw [e1]; exact ⟨_, hns₁⟩, by simp, rfl, e2, e3⟩
    rintro k s' ⟨rest, acc, l2, fl₁, ys, he', rfl, it', hl', r', H', K', ⟨m, hn⟩, hlen, rfl, g', o'⟩
    cases rest with
    | nil =>
      unfold evMapIf at he'; cases he'; refine next_none hg.handled it' fun h' tk hs => ?_
      rw [List.append_nil]; refine q D C _ ys (hl'.extBut hs (Ne.symm hID)) (by simpa using r') (H'.but hI fun b o hb e => hs b o hb e) (K'.fresh hI0 fun b o hb e => hs b o hb e) (fresh0 _ sD) (fresh0 _ sC) hDC ⟨m, hn.extBut hs (Ne.symm hIC)⟩ g' o'
    | cons a rest =>
      refine next_some it' fun v h' tk ra it₁ hs => ?_
      have hsE := hs.extBut
      have H₁ := H'.but hI fun b o hb e => hsE b o hb e
      have K₁ := K'.fresh hI0 fun b o hb e => hsE b o hb e
      refine wpAny_assign_Name (wpAny_storeName_local (m := m) hloc (hn.extBut hsE (Ne.symm hIC)) (fun h'' hn'' hs'' => ?_) (by show (sc.kind == .class || (sc.kind == .module && _)) = false; rw [hkind]; rfl))
      have hsE2 := hs''.extBut
      have H₂ := H₁.but FC fun b o hb e => hsE2 b o hb e
      have K₂ := K₁.fresh (fresh0 _ sC) fun b o hb e => hsE2 b o hb e
      have hl₂ : h''.IsList D ys := (hl'.extBut hsE (Ne.symm hID)).extBut hsE2 hDC
      have it₂ : ItIs S.inst (some D) h'' I rest := it₁.keep (fun o e => hsE2 I o hIC e) (fun b o e _ hdt _ => ⟨o.slots, hsE2 b o (by
        rintro rfl
        obtain ⟨o2, es, ep, ho2, hd2, _⟩ := hn.extBut hsE (Ne.symm hIC); obtain ⟨vs, k, hdt⟩ := hdt
        have : o2 = o := Option.some.inj (ho2.symm.trans e)
        subst this
        rw [hd2] at hdt; cases hdt) e⟩) (.inl rfl)
      generalize hs2 : ({ s' with heap := h'', toks := tk + 1 } : Shared) = s₂
      have V₂ : Inv w B (compSit S c t caps sc C) none ⟨some (.at a) :: cs.map some, fl₁⟩ s₂ := by
        subst hs2; exact inner _ a v fl₁ _ H₂ K₂ hn'' (by simp) ra g' o'
      have st2 : s₂.heap = h'' := by subst hs2; rfl
      unfold evMapIf at he'
      have after : ∀ (s₃ : Shared), Kp S.fr (dl S.inst) s₂.heap s₃.heap → ItIs S.inst (some D) s₃.heap I rest ∧ s₃.heap.IsList D ys ∧ (∃ m, s₃.heap.Ns C m) ∧ Kp S.fr (dl S.inst) s₀.heap s₃.heap := by
        intro s₃ k₃
        rw [st2] at k₃; refine ⟨it₂.keep (fun o e => k₃.exact I o e hI.dl hI.f) (fun b o e _ hdt _ => k₃.slots b o e (not_dl_data H₂ e fun es ep q => by obtain ⟨vs, m, hd⟩ := hdt; rw [q] at hd; cases hd)) (.inl rfl), ?_, ?_, K₂.trans k₃⟩
        · obtain ⟨o, ho, r⟩ := hl₂; exact ⟨o, k₃.exact D o ho FD.dl FD.f, r⟩
        · exact ⟨_, ns_slots hn'' fun o e => k₃.slots C o e FC.dl⟩
      split at he'
      · rename_i fl₂ hct
        split at he'
        · rename_i b fl₃ hf
          obtain ⟨⟨l3, fl4⟩, hr, e⟩ := Option.map_eq_some_iff.mp he'
          cases e
          refine hT a fl₁ true fl₂ C hct hGood s₂ _ _ V₂ fun s₃ V₃ k₃ => ?_
          rw [if_pos rfl]; refine hE a fl₂ _ fl₃ C hf hGood s₃ _ _ V₃ fun x s₄ V₄ k₄ r₄ => ?_
          obtain ⟨it₄, hl₄, ⟨m₄, hn₄⟩, K₄⟩ := after s₄ (k₃.trans k₄)
          have hysl : ys.size = acc.length := by rw [← Array.length_toList, r'.len]
          refine wpAny_list_append (hsz := by simp at hlen; omega) hl₄ fun h₅ hl₅ hs₅ => ?_
          have hs₅E := hs₅.extBut
          refine ⟨rest.length + 1, by simp, rest, acc ++ [b], l3, fl₃, ys.push x, hr, by simp, it₄.keep (fun o e => hs₅E I o hID e) (fun b o e _ _ hgb => ⟨o.slots, hs₅E b o (fun z => hgb (by rw [z])) e⟩) (.inl rfl), hl₅, by rw [Array.toList_push]; exact r'.append (.cons r₄ .nil), V₄.toHInv.but FD fun b o hb e => hs₅E b o hb e,
            K₄.fresh (fresh0 _ sD) fun b o hb e => hs₅E b o hb e, ⟨m₄, hn₄.extBut hs₅E (Ne.symm hDC)⟩, by simp at hlen ⊢; omega, rfl, V₄.gens, V₄.os⟩
        · cases he'
      · rename_i fl₂ hct
        refine hT a fl₁ false fl₂ C hct hGood s₂ _ _ V₂ fun s₃ V₃ k₃ => ?_
        rw [if_neg (by simp)]; obtain ⟨it₃, hl₃, hn₃, K₃⟩ := after s₃ k₃; exact ⟨rest.length + 1, by simp, rest, acc, l2, fl₂, ys, he', rfl, it₃, hl₃, r', V₃.toHInv, K₃, hn₃, by simp at hlen; omega, rfl, V₃.gens, V₃.os⟩
      · cases he'
  have lp := loop { s with heap := h₁, toks := s.toks + ([] : List (Str × Value)).length } rfl hgens hos
  refine codeAny_compStart_list lp (iter_self (g := none) hg.handled (hit.keep (fun o => old I o) (fun b o e _ _ _ => ⟨o.slots, old b o e⟩) (.inl rfl)) lp)
end
end Mine
namespace Mine
section
variable {w : World} {B : Heap} {n : Nat} {Γ : Call} {S : Sit} {s : Shared} {E : Value → Shared → Prop}
theorem ex_kp {g : Option Addr} {σ : AS} {h : Heap} {s' : Shared} (V' : Inv w B S g σ s') (k : Kp S.fr (dl S.inst) h s'.heap) {b : Addr} (e : s'.heap.get? b = none) : h.get? b = none := by
  cases hb : h.get? b with
  | none => rfl
  | some o =>
    by_cases hm : b ∈ dl S.inst
    · obtain ⟨x, hI⟩ := mem_dl hm
      obtain ⟨o, _, _, ho, _⟩ := (V'.inst x b hI).dcl; rw [e] at ho; cases ho
    · obtain ⟨sl, e'⟩ := k.slots b o hb hm
      rw [e] at e'; cases e'
theorem notSet_folded {it : Expr} {env : Env} (h : notSet it = true) (x : Value) : foldedSetIterable it env x = pure x := by
  cases it <;> first | rfl | cases h
theorem comp_gen {c : Cx} {t : Str} {px pos : Pos} {caps : List Nat} {sc : Scope} {ifs : List Expr} {ex it : Expr} {f : Atom → FL → Option (AV × FL)} {ct : Atom → FL → Option (Bool × FL)} {src : CE} {x : AV} {its l : List Atom} {cs : List AV} {fl₁ fl' : FL} {σ : AS}
    {use : Option (Value → Sem Unit)} {Q : Value → Shared → Prop}
    (hc : Ctx c S) (hg : Good n B S) (V : Inv w B S none σ s) (hsrc : PE w B n Γ src) (hi : isE c src it = true) (hs : evE tabs Γ src σ = some (x, fl₁)) (hits : iterV x = some its) (hcs : capsOf caps ⟨σ.loc, fl₁⟩ = some cs)
    (hscope : scOk c t caps sc = true) (hkind : sc.kind = .function) (hx : sc.names.lookup t = some .local) (hns : notSet it = true) (he : evMapIf f ct its fl₁ = some (l, fl'))
    (hE : ∀ cs a fl v fl' C, f a fl = some (v, fl') → Good n B (compSit S c t caps sc C) → capsOf caps ⟨σ.loc, fl₁⟩ = some cs → ∀ (s₂ : Shared) (Q : Value → Shared → Prop) (E : Value → Shared → Prop), Inv w B (compSit S c t caps sc C) none ⟨some (.at a) :: cs.map some, fl⟩ s₂ →
      Post w B (compSit S c t caps sc C) none ⟨some (.at a) :: cs.map some, fl⟩ s₂ fl' v Q → wpAny (model pw w) S.A (eval ex (compSit S c t caps sc C).env) Q E s₂)
    (hT : ∀ cs a fl b fl' C, ct a fl = some (b, fl') → Good n B (compSit S c t caps sc C) → capsOf caps ⟨σ.loc, fl₁⟩ = some cs → ∀ (s₂ : Shared) (Q : Bool → Shared → Prop) (E : Value → Shared → Prop), Inv w B (compSit S c t caps sc C) none ⟨some (.at a) :: cs.map some, fl⟩ s₂ →
      PostB w B (compSit S c t caps sc C) none ⟨some (.at a) :: cs.map some, fl⟩ s₂ fl' b Q →
      wpAny (model pw w) S.A (forIn ifs true fun cd r => if r = true then do let ok ← isTrue cd (compSit S c t caps sc C).env (eval cd (compSit S c t caps sc C).env); pure (ForInStep.yield ok) else pure (ForInStep.yield r)) Q E s₂)
    (q : ∀ D s', Inv w B S none ⟨σ.loc, fl'⟩ s' → Kp S.fr (dl S.inst) s.heap s'.heap → Rep w S.fr S.inst none s'.heap (.list l) (.ref D) → match use with
      | none => Q (.ref D) s'
      | some u => ∀ C, C ≠ D → (∃ m, s'.heap.Ns C m) → C ≠ S.env.locals → Free B S.fr S.inst C → s.heap.get? C = none → wpAny (model pw w) S.A (u (.ref D)) (fun _ s'' => (∃ m, s''.heap.Ns C m) ∧ ∀ h', Heap.SameBut C s''.heap h' → Q .none { s'' with heap := h' }) E s') :
    wpAny (model pw w) S.A (comprehension (.ListComp ex [⟨.Name t px, it, ifs, 0⟩] sc pos) sc S.env (firstIterPos [⟨.Name t px, it, ifs, 0⟩] pos) (newList []) false (eval it S.env) use) Q E s := by
  have hscope' := hscope
  simp only [scOk, Bool.and_eq_true, List.all_eq_true] at hscope'; obtain ⟨⟨⟨⟨sc1, sc2⟩, sc3⟩, sc4⟩, sc5⟩ := hscope'
  have hclos : closureFor sc S.env = pure (clFold S.env sc.names []) := closure_is fun y hy hf => by
    have h2 := sc2 y hy
    rw [hf] at h2; simp only [bne_self_eq_false, Bool.false_or, List.any_eq_true, Bool.and_eq_true, beq_iff_eq] at h2; obtain ⟨i, hi, h3, h4⟩ := h2; obtain ⟨j, hj⟩ := List.getElem?_of_mem hi
    have hl := capsOf_len hcs
    obtain ⟨u, hu⟩ : ∃ u, cs[j]? = some u := ⟨_, List.getElem?_eq_getElem (by rw [hl]; exact (List.getElem?_eq_some_iff.mp hj).1)⟩; obtain ⟨i', hi', hli⟩ := capsOf_get hcs hu; rw [hj] at hi'; cases hi'; obtain ⟨x', val, e1, e2, e3⟩ := V.vars i u hli; rw [hc.1, h3] at e1
    cases e1
    rcases e2 with ⟨hk, _⟩ | ⟨hk, b, hb, _⟩
    · unfold Env.kindOf at hk
      rw [hc.2, h4] at hk; cases hk
    · rw [hb]; rfl
  refine wpAny_comprehension_free rfl (notSet_folded hns) hclos hkind (fun y hy hl => ?_) ?_
  · have := (sc1 y hy)
    rw [hl] at this
    simpa using this
  refine hsrc.1 c it σ x fl₁ S none s _ E hi hc hs hg V fun va s₁ V₁ k₁ r₁ => ?_
  refine iter_ok hits V₁ r₁ fun I h' hit hk hfr => ?_
  have hsm : its.length ≤ sizeLine := by
    unfold iterV at hits
    split at hits
    · split at hits
      · rename_i hh; cases hits; exact small_le hh
      · cases hits
    · split at hits
      · rename_i hh; cases hits; simpa [Str.length] using small_le hh
      · cases hits
    · split at hits
      · obtain ⟨l, hl, rfl⟩ := Option.map_eq_some_iff.mp hits
        rw [List.length_map]; unfold rangeInts at hl
        split at hl
        · split at hl
          · rename_i hh; cases hl; simpa using small_le hh
          · cases hl
        · split at hl
          · split at hl
            · rename_i hh; cases hl; simpa using small_le hh
            · cases hl
          · cases hl
      · cases hits
    · cases hits
  refine comp_core (RR := compPost (model pw w) S.A E use Q) (s₀ := s₁) hc hg V₁ hk hfr V₁.gens V₁.os hcs hscope hkind hx hit he hsm (fun a fl v fl' C h1 h2 => hE cs a fl v fl' C h1 h2 hcs) (fun a fl b fl' C h1 h2 => hT cs a fl b fl' C h1 h2 hcs) fun D C s' ys hl r H K hD hC hDC hn g' o' => ?_
  have FD : Free B S.fr S.inst D := .of V₁.toHInv hD
  have FC : Free B S.fr S.inst C := .of V₁.toHInv hC
  cases use with
  | none =>
    obtain ⟨m, hn⟩ := hn; refine ⟨m, hn, fun h'' hs => ?_⟩
    have hsE := hs.extBut
    have V' := V₁.kp (s' := { s' with heap := h'' }) (H.but FC fun b o hb e => hsE b o hb e) (K.fresh hC fun b o hb e => hsE b o hb e) g' o'
    exact q D { s' with heap := h'' } V' (k₁.trans (K.fresh hC fun b o hb e => hsE b o hb e)) ⟨D, ys, rfl, by simp, hl.extBut hsE hDC, r⟩
  | some u =>
    have V' := V₁.kp H K g' o'
    have hCL : C ≠ S.env.locals := by
      rintro rfl
      obtain ⟨m, o, _, _, ho, _⟩ := V₁.loc; rw [hC] at ho; cases ho
    have := q D s' V' (k₁.trans K) ⟨D, ys, rfl, by simp, hl, r⟩ C (Ne.symm hDC) hn hCL FC (ex_kp V₁ k₁ hC)
    refine wpAny_mono this (fun _ s'' hh => ?_) fun _ _ e => e
    obtain ⟨⟨m, hm⟩, hh⟩ := hh; exact ⟨m, hm, hh⟩
theorem capsOf_loc : ∀ (caps : List Nat) (σ : AS) (fl : FL), capsOf caps ⟨σ.loc, fl⟩ = capsOf caps σ
  | [], _, _ => rfl
  | i :: r, σ, fl => by
    unfold capsOf; simp only
    split
    · rw [capsOf_loc r σ fl]
    · rfl
theorem forIn_nil_true {A : Around} {env : Env} {Q : Bool → Shared → Prop} (q : Q true s) :
    wpAny (model pw w) A (forIn ([] : List Expr) true fun cd r => if r = true then do let ok ← isTrue cd env (eval cd env); pure (ForInStep.yield ok) else pure (ForInStep.yield r)) Q E s := wpAny_pure q
theorem forIn_one {A : Around} {env : Env} {cd : Expr} {Q : Bool → Shared → Prop} (q : wpAny (model pw w) A (isTrue cd env (eval cd env)) Q E s) :
    wpAny (model pw w) A (forIn [cd] true fun cd r => if r = true then do let ok ← isTrue cd env (eval cd env); pure (ForInStep.yield ok) else pure (ForInStep.yield r)) Q E s := by
  rw [List.forIn_cons]; refine wpAny_bind ?_; rw [if_pos rfl]; exact wpAny_bind (wpAny_mono q (fun b s' h => wpAny_pure (wpAny_pure h)) fun _ _ e => e)
theorem comp_use {c : Cx} {e : CE} {ex : Expr} {gens : List Comprehension} {sc : Scope} {pos : Pos} {σ : AS} {v : AV} {fl' : FL} {use : Option (Value → Sem Unit)} {Q : Value → Shared → Prop} (elt src : CE) (caps : List Nat)
    (he : (e = .comp elt src caps ∧ PE w B n Γ elt ∧ PE w B n Γ src) ∨ ∃ cond, e = .compIf elt src cond caps ∧ PE w B n Γ elt ∧ PE w B n Γ src ∧ PE w B n Γ cond)
    (hi : isE c e (.ListComp ex gens sc pos) = true) (hc : Ctx c S) (hg : Good n B S) (g : Option Addr) (V : Inv w B S g σ s) (ev : evE tabs Γ e σ = some (v, fl'))
    (q : ∀ D s', g = none → Inv w B S none ⟨σ.loc, fl'⟩ s' → Kp S.fr (dl S.inst) s.heap s'.heap → Rep w S.fr S.inst none s'.heap v (.ref D) → (∃ l, v = .list l) → match use with
      | none => Q (.ref D) s'
      | some u => ∀ C, C ≠ D → (∃ m, s'.heap.Ns C m) → C ≠ S.env.locals → Free B S.fr S.inst C → s.heap.get? C = none → wpAny (model pw w) S.A (u (.ref D)) (fun _ s'' => (∃ m, s''.heap.Ns C m) ∧ ∀ h', Heap.SameBut C s''.heap h' → Q .none { s'' with heap := h' }) E s') :
    wpAny (model pw w) S.A (comprehension (.ListComp ex gens sc pos) sc S.env (firstIterPos gens pos) (newList []) (firstAsync gens) (firstIter gens S.env) use) Q E s := by
  rcases he with ⟨rfl, p1, p2⟩ | ⟨cond, rfl, p1, p2, p3⟩
  · obtain ⟨ex', t, px, it, sc', pos', heq, h⟩ := invE_comp hi
    cases heq
    simp only [Bool.and_eq_true, beq_iff_eq] at h; obtain ⟨⟨⟨⟨⟨h1, h2⟩, h3⟩, h4⟩, h5⟩, h6⟩ := h; unfold evE at ev
    split at ev
    · cases ev
    · rename_i ho
      rw [Bool.not_eq_true] at ho
      have hgn := gnone V ho
      subst hgn
      split at ev
      · rename_i x fl₁ hx
        split at ev
        · rename_i its cs hits hcs
          obtain ⟨r, hr, e⟩ := Option.map_eq_some_iff.mp ev
          cases e
          rw [evMap_if] at hr; refine comp_gen (cs := cs) hc hg V p2 h1 hx hits ((capsOf_loc ..).trans hcs) h6 h3 h4 h5 hr (fun cs' a fl v fl' C hf hG hcs' s₂ Q E V₂ q₂ => ?_) (fun cs' a fl b fl' C hf hG hcs' s₂ Q E V₂ q₂ => ?_) fun D s' V' K' R' => q D s' rfl V' K' R' ⟨_, rfl⟩
          · rw [capsOf_loc, hcs] at hcs'; cases hcs'
            exact p1.1 (compCx c t caps sc) ex _ v fl' (compSit S c t caps sc C) none s₂ Q E h2 (comp_ctx hc hg.kind) hf hG V₂ q₂
          · cases hf
            exact forIn_nil_true (q₂ s₂ V₂ (.refl ..))
        · cases ev
      · cases ev
  · obtain ⟨ex', t, px, it, cd, sc', pos', heq, h⟩ := invE_compIf hi
    cases heq
    simp only [Bool.and_eq_true, beq_iff_eq] at h; obtain ⟨⟨⟨⟨⟨⟨h1, h2⟩, h2'⟩, h3⟩, h4⟩, h5⟩, h6⟩ := h; unfold evE at ev
    split at ev
    · cases ev
    · rename_i ho
      rw [Bool.not_eq_true] at ho
      have hgn := gnone V ho
      subst hgn
      split at ev
      · rename_i x fl₁ hx
        split at ev
        · rename_i its cs hits hcs
          obtain ⟨r, hr, e⟩ := Option.map_eq_some_iff.mp ev
          cases e
          refine comp_gen (cs := cs) hc hg V p2 h1 hx hits ((capsOf_loc ..).trans hcs) h6 h3 h4 h5 hr (fun cs' a fl v fl' C hf hG hcs' s₂ Q E V₂ q₂ => ?_) (fun cs' a fl b fl' C hf hG hcs' s₂ Q E V₂ q₂ => ?_) fun D s' V' K' R' => q D s' rfl V' K' R' ⟨_, rfl⟩
          · rw [capsOf_loc, hcs] at hcs'; cases hcs'
            exact p1.1 (compCx c t caps sc) ex _ v fl' (compSit S c t caps sc C) none s₂ Q E h2 (comp_ctx hc hg.kind) hf hG V₂ q₂
          · rw [capsOf_loc, hcs] at hcs'; cases hcs'
            split at hf
            · rename_i u fl₂ hu
              obtain ⟨z, hz, e⟩ := Option.map_eq_some_iff.mp hf
              cases e
              rw [truth_ab hz] at hu; exact forIn_one (p3.2 (compCx c t caps sc) cd _ b _ (compSit S c t caps sc C) none s₂ Q E h2' (comp_ctx hc hg.kind) hu hG V₂ q₂)
            · cases hf
        · cases ev
      · cases ev
theorem comp_shape {c : Cx} {e : CE} {X : Expr} (hi : isE c e X = true) (h : isComp X = true) : ∃ ex gens sc pos, X = .ListComp ex gens sc pos := by
  cases X <;> first | exact ⟨_, _, _, _, rfl⟩ | cases h
theorem case_comp {elt src : CE} (caps : List Nat) (p1 : PE w B n Γ elt) (p2 : PE w B n Γ src) : PE w B n Γ (.comp elt src caps) := by
  refine st_plain (fun c X σ v fl' S g s Q E hi hc he hg V q => ?_) fun c X hi => ?_
  · obtain ⟨ex', t, px, it, sc', pos', rfl, h⟩ := invE_comp hi
    rw [eval_ListComp]; exact comp_use (use := none) elt src caps (.inl ⟨rfl, p1, p2⟩) hi hc hg g V he fun D s' hgn V' K' R' _ => by subst hgn; exact q (.ref D) s' V' K' R'
  · obtain ⟨ex', t, px, it, sc', pos', rfl, h⟩ := invE_comp hi; rfl
theorem case_compIf {elt src cond : CE} (caps : List Nat) (p1 : PE w B n Γ elt) (p2 : PE w B n Γ src) (p3 : PE w B n Γ cond) : PE w B n Γ (.compIf elt src cond caps) := by
  refine st_plain (fun c X σ v fl' S g s Q E hi hc he hg V q => ?_) fun c X hi => ?_
  · obtain ⟨ex', t, px, it, cd, sc', pos', rfl, h⟩ := invE_compIf hi
    rw [eval_ListComp]; exact comp_use (use := none) elt src caps (.inr ⟨cond, rfl, p1, p2, p3⟩) hi hc hg g V he fun D s' hgn V' K' R' _ => by subst hgn; exact q (.ref D) s' V' K' R'
  · obtain ⟨ex', t, px, it, cd, sc', pos', rfl, h⟩ := invE_compIf hi; rfl
theorem soundE (hf : Fixed w B) (hk : CallOk w B n Γ) (e : CE) : PE w B n Γ e :=
  CE.rec (motive_1 := fun e => PE w B n Γ e) (motive_2 := fun l => PA w B n Γ l)
    case_var case_int case_neg case_str case_bool (case_glob hf) (case_fld hf) (case_cattr hf) (fun _ x h => case_amo hf x h) (fun o _ _ h1 h2 => case_bin o h1 h2) (fun o _ _ h1 h2 => case_cmp hf o h1 h2) (fun _ h => case_not h)
    (fun _ h => case_and h) (fun _ h => case_or h) (fun _ _ _ h1 h2 h3 => case_ite h1 h2 h3) (fun _ _ h1 h2 => case_idx hf h1 h2) (fun _ _ h1 h2 => case_sliceTo h1 h2) (fun _ _ h1 h2 => case_sliceFrom h1 h2) (fun _ _ _ h1 h2 h3 => case_slice h1 h2 h3)
    (fun _ h => case_len hf h) (fun _ h => case_ord hf h) (fun _ _ h1 h2 => case_min hf h1 h2) (fun _ _ h1 h2 => case_max hf h1 h2) (fun _ h => case_range hf h) (fun _ _ h1 h2 => case_endswith h1 h2) (fun _ h => case_join h) (fun _ h => case_list h) (fun _ h => case_tup h)
    (case_dict hf) (fun f _ h => case_callG hf hk f h) (fun i f _ h => case_callM hf hk i f h) (fun _ _ caps h1 h2 => case_comp caps h1 h2) (fun _ _ _ caps h1 h2 h3 => case_compIf caps h1 h2 h3)
    caseA_nil (fun _ _ h1 h2 => caseA_cons h1 h2) e
end
end Mine
namespace Mine
def baseOf (S : Sit) (h0 : Heap) : Heap := hideAll h0 (frA S.fr)
def Held (S : Sit) (L : Addr) (k : Nat) (e : Addr) (h0 h : Heap) : Prop := ∃ a0, Heap.HeldW (baseOf S h0) S.fr e (.ref (labA k)) a0 L h ∧ h0.UpToSlots h
def Fly (S : Sit) (k : Nat) (e : Addr) (h0 h : Heap) : Prop := ∃ a0, Heap.FlyingW (baseOf S h0) S.fr e (.ref (labA k)) a0 h ∧ h0.UpToSlots h
def Ex (S : Sit) (L : Addr) (k : Nat) (e : Addr) (h0 h : Heap) : Prop := Heap.MadeExcOf h0 h e (.ref (labA k)) [] ∨ Held S L k e h0 h
section
variable {w : World} {B : Heap} {n : Nat} {S : Sit} {g : Option Addr} {σ : AS} {s : Shared} {E : Value → Shared → Prop} {L e : Addr} {k : Nat} {h0 : Heap}
theorem frs_hide {fl : FL} {I : Option (Addr × Addr)} (H : HInv B S.fr I fl h0) {h : Heap} (k : ∀ b o, h0.get? b = some o → (∀ vs, o.data ≠ .fields vs) → ∃ o', h.get? b = some o' ∧ o'.data = o.data) : h.FunFrames (baseOf S h0) S.fr := by
  have h1 : h0.FunFrames (baseOf S h0) S.fr := funFrames_hide H.frs fun env he a hf => List.mem_filterMap.mpr ⟨env, he, hf⟩
  exact h1.of_keeps k
theorem base_stays {h : Heap} (k : ∀ b o, h0.get? b = some o → h.get? b = some o) : (baseOf S h0).StaysIn h := fun b o e => k b o (of_hideAll _ e)
theorem note_ok {fl : FL} {I : Option (Addr × Addr)} {env : Env} {outer : List Env} {Q : Unit → Shared → Prop} (hfr : S.fr = env :: outer) (hA : S.A.frames = some S.fr) (hf : env.frame = some L) (H : HInv B S.fr I fl h0) (x : Ex S L k e h0 s.heap)
    (q : ∀ h', Held S L k e h0 h' → Q () { s with heap := h' }) : wpAny (model pw w) S.A (noteFrame (.ref e) env) Q E s := by
  rcases x with x | ⟨a0, x, up⟩
  · obtain ⟨t, he, htn, ht⟩ := x.there
    have hnew : (baseOf S h0).get? e = none := by
      cases hq : (baseOf S h0).get? e with
      | none => rfl
      | some o => have := of_hideAll _ hq; rw [x.new] at this; cases this
    unfold noteFrame; simp only [hf]; refine wpAny_bind (wpAny_field he rfl (x := .none) rfl ?_); rw [if_neg (by decide)]
    have hl := frs_hide (S := S) H (h := s.heap) fun b o hb _ => ⟨o, x.keeps b o hb, rfl⟩
    rw [hfr] at hl; refine wpAny_entryW (a0 := .ref t) (hA.trans (congrArg some hfr)) hl hf he (base_stays x.keeps) hnew rfl (by simp) rfl fun h' N => ?_
    obtain ⟨k1, k2, k3, k4⟩ := N; exact q h' ⟨.ref t, ⟨k1, hnew, hfr ▸ k2, k3⟩, (Heap.UpToSlots.of_keeps x.keeps).trans k4⟩
  · exact wpAny_noteFrame_againW hf x.2.2.2 (q s.heap ⟨a0, x, up⟩)
theorem land_ok {Q : Unit → Shared → Prop} (x : Held S L k e h0 s.heap) (q : ∀ h', Fly S k e h0 h' → Q () { s with heap := h' }) : wpAny (model pw w) S.A (setFlight (.ref e) none) Q E s := by
  obtain ⟨a0, x, up⟩ := x; exact wpAny_landsW x fun h' x' u => q h' ⟨a0, x', up.trans u⟩
theorem land_again {A : Around} {Q : Unit → Shared → Prop} (x : Fly S k e h0 s.heap) (q : ∀ h', Fly S k e h0 h' → Q () { s with heap := h' }) : wpAny (model pw w) A (setFlight (.ref e) none) Q E s := by
  obtain ⟨a0, x, up⟩ := x; exact lands_againW x fun h' x' u => q h' ⟨a0, x', up.trans u⟩
theorem setFlight_some {M : Model} {A : Around} {base : Heap} {l : List Env} {cls a0 fl : Value} {Q : Unit → Shared → Prop}
    (hkb : base.StaysIn s.heap) (hl : s.heap.FunFrames base l) (ht : s.heap.TracedAtW base e cls a0 fl)
    (h : ∀ h', base.StaysIn h' → h'.FunFrames base l → h'.TracedAtW base e cls a0 (rawInt L) → (∀ b o, s.heap.get? b = some o → (∀ vs, o.data ≠ .fields vs) → h'.get? b = some o) → Q () { s with heap := h' }) :
    wpAny M A (setFlight (.ref e) (some L)) Q E s := by
  obtain ⟨oe, vs, T, oT, ts, he, hcls, hd, h1, hnT, hTe, hT, hdT, h3⟩ := ht
  have hsz3 : 3 < ts.size := (Array.getElem?_eq_some_iff.mp h3).1
  have other : ∀ b, b ≠ T → (s.heap.update T (Obj.mapFields (·.setIfInBounds 3 ((some L : Option Addr).elim Value.none fun f => rawInt f)))).get? b = s.heap.get? b :=
    fun b hb => Heap.get?_update_other _ _ (Ne.symm hb)
  have noRecord : ∀ b o, s.heap.get? b = some o → (∀ vs, o.data ≠ .fields vs) → b ≠ T := fun b o hb hnf q => by
    rw [q, hT] at hb; injection hb with hb; subst hb; exact hnf ts hdT
  unfold setFlight; refine wpAny_bind (wpAny_field he hd h1 ?_); rw [if_pos (show (Value.ref T != Value.none) = true from by simp)]
  refine wpAny_setField hT hdT hsz3 (h _ (fun b o hbo => (other b fun q => by rw [q, hnT] at hbo; cases hbo).trans (hkb b o hbo))
    (hl.of_keeps fun b o hb hnf => ⟨o, (other b (noRecord b o hb hnf)).trans hb, rfl⟩) ?_ fun b o hb hnf => (other b (noRecord b o hb hnf)).trans hb)
  exact ⟨oe, vs, T, _, _, (other e (Ne.symm hTe)).trans he, hcls, hd, h1, hnT, hTe, Heap.get?_update_self _ hT (Obj.isFreed_of_fields (Obj.data_mapFields hdT _)), Obj.data_mapFields hdT _, by simp [hsz3]⟩
theorem field1 {M : Model} {A : Around} {base : Heap} {cls a0 fl : Value} {Q : Value → Shared → Prop} (ht : s.heap.TracedAtW base e cls a0 fl) (q : ∀ T, Q (.ref T) s) : wpAny M A (field (.ref e) 1) Q E s := by
  obtain ⟨oe, vs, T, oT, ts, he, hcls, hd, h1, _⟩ := ht; exact wpAny_field he hd h1 (q T)
theorem pass_ok {α : Type} {env : Env} {what : String} {Q : α → Shared → Prop} (hf : env.frame = some L) (x : Fly S k e h0 s.heap) (q : ∀ h', Held S L k e h0 h' → E (.ref e) { s with heap := h' }) : wpAny (model pw w) S.A (PySem.passOn what (.ref e) env) Q E s := by
  obtain ⟨a0, ⟨f1, f2, f3, f4⟩, up⟩ := x; unfold PySem.passOn; refine wpAny_bind (field1 f4.at fun T => ?_); rw [if_neg (by simp)]; rw [hf]; refine wpAny_bind (setFlight_some f1 f3 f4.at fun h' k1 k2 k3 k4 => wpAny_throw (q h' ⟨a0, ⟨k1, f2, k2, k3⟩, up.trans fun b o hb hn => ⟨o.slots, k4 b o hb hn⟩⟩))
theorem back_ok {A : Around} {env : Env} (hf : env.frame = some L) (x : Held S L k e h0 s.heap) (q : ∀ h', Held S L k e h0 h' → E (.ref e) { s with heap := h' }) : cameBackBy (model pw w) A env E (.ref e) s := by
  obtain ⟨a0, ⟨f1, f2, f3, f4⟩, up⟩ := x; unfold cameBackBy; refine wpAny_bind (field1 f4 fun T => ?_); rw [if_neg (by simp)]; rw [hf]; exact setFlight_some f1 f3 f4 fun h' k1 k2 k3 k4 => q h' ⟨a0, ⟨k1, f2, k2, k3⟩, up.trans fun b o hb hn => ⟨o.slots, k4 b o hb hn⟩⟩
theorem kp_of_base {fl : FL} {I : Option (Addr × Addr)} {h : Heap} (H : HInv B S.fr I fl h0) (st : (baseOf S h0).StaysIn h) (up : h0.UpToSlots h) : Kp S.fr [] h0 h := by
  refine ⟨fun b o e _ hf => st b o (hideAll_get _ e hf), fun b o e _ => ?_⟩
  by_cases hm : b ∈ frA S.fr
  · obtain ⟨_, o', ho', hd⟩ := H.frs.mem hm
    rw [e] at ho'; cases ho'; exact up b o e hd
  · exact ⟨o.slots, st b o (hideAll_get _ e hm)⟩
theorem HInv.kp0 {fl : FL} {I : Option (Addr × Addr)} {h h' : Heap} {fr : List Env} (H : HInv B fr I fl h) (k : Kp fr [] h h') : HInv B fr I fl h' := by
  refine ⟨fun b o e => k.exact b o (H.stays b o e) (by simp) fun m => ?_, frs_keep (fun b o e _ => k.slots b o e (by simp)) (fun _ h => h) H.frs, fun x dx hI => (H.inst x dx hI).keep (fun o e => k.exact x o e (by simp) (H.inst x dx hI).xf) (fun o e => k.exact dx o e (by simp) (H.inst x dx hI).df)⟩; rw [(H.frs.mem m).1] at e; cases e
theorem Inv.kp0 {s' : Shared} (V : Inv w B S g σ s) (k : Kp S.fr [] s.heap s'.heap) (hg : s'.gens = #[]) (ho : s'.os = S.os) : Inv w B S g σ s' :=
  V.kp (V.toHInv.kp0 k) (k.mono fun _ h => by cases h) hg ho
end
end Mine
namespace Mine
structure GoodS (n : Nat) (B : Heap) (S : Sit) : Prop extends Good n B S where
  outer : ∃ outer, S.fr = S.env :: outer
  frame : S.env.frame = some S.env.locals
theorem GoodS.loc {n : Nat} {B : Heap} {S : Sit} (h : GoodS n B S) : S.env.locals ∈ frA S.fr := by
  obtain ⟨o, ho⟩ := h.outer; exact List.mem_filterMap.mpr ⟨S.env, by rw [ho]; exact .head _, h.frame⟩
theorem GoodS.inter {n : Nat} {B : Heap} {S : Sit} (h : GoodS n B S) : interactive S.env = false := by
  unfold interactive; rw [h.kind]; rfl
theorem GoodS.store {n : Nat} {B : Heap} {S : Sit} (h : GoodS n B S) : (S.env.scope.kind == .class || (S.env.scope.kind == .module && S.env.locals != S.env.globals)) = false := by rw [h.kind]; rfl
def dS (S : Sit) (g : Option Addr) : List Addr := S.env.locals :: (g.toList ++ dl S.inst)
structure Stp (S : Sit) (g g' : Option Addr) (h h' : Heap) : Prop where
  kp : Kp S.fr (dS S g) h h'
  gf : g' = g ∨ ∃ a, g' = some a ∧ h.get? a = none
  ex : ∀ b o, h.get? b = some o → ∃ o', h'.get? b = some o'
theorem Stp.refl (S g h) : Stp S g g h h := ⟨.refl .., .inl rfl, fun _ o e => ⟨o, e⟩⟩
theorem Stp.trans {S : Sit} {g₁ g₂ g₃ : Option Addr} {h₁ h₂ h₃ : Heap} (x : Stp S g₁ g₂ h₁ h₂) (y : Stp S g₂ g₃ h₂ h₃) : Stp S g₁ g₃ h₁ h₃ := by
  have nd : ∀ b o, h₁.get? b = some o → b ∉ dS S g₁ → b ∉ dS S g₂ := fun b o e hn m => by
    rcases x.gf with rfl | ⟨a, rfl, ha⟩
    · exact hn m
    · simp only [dS, List.mem_cons, List.mem_append, Option.toList_some, List.mem_singleton, not_or] at m hn
      rcases m with h | h | h
      · exact hn.1 h
      · rcases h with rfl | h
        · rw [ha] at e; cases e
        · cases h
      · exact hn.2.2 h
  refine ⟨⟨fun b o e hd hf => y.kp.exact b o (x.kp.exact b o e hd hf) (nd b o e hd) hf, fun b o e hd => ?_⟩, ?_, fun b o e => let ⟨o₁, e₁⟩ := x.ex b o e; y.ex b o₁ e₁⟩
  · obtain ⟨sl, e₁⟩ := x.kp.slots b o e hd
    obtain ⟨sl', e₂⟩ := y.kp.slots b _ e₁ (nd b o e hd); exact ⟨sl', e₂⟩
  · rcases y.gf with rfl | ⟨a, rfl, ha⟩
    · exact x.gf
    · refine .inr ⟨a, rfl, ?_⟩
      cases h : h₁.get? a with
      | none => rfl
      | some o => obtain ⟨o', e⟩ := x.ex a o h; rw [ha] at e; cases e
def OutIs (w : World) (S : Sit) (g : Option Addr) (h : Heap) : Out → Flow → Prop
  | .next, .next => True
  | .brk, .brk => True
  | .cont, .cont => True
  | .ret v, .ret val => Rep w S.fr S.inst g h v val ∧ v.isOwn = false
  | _, _ => False
structure PostS (w : World) (B : Heap) (S : Sit) (g : Option Addr) (s : Shared) (σ' : AS) (out : Out) (Q : Flow → Shared → Prop) (E : Value → Shared → Prop) : Prop where
  ok : ∀ g' s' f, Inv w B S g' σ' s' → Stp S g g' s.heap s'.heap → OutIs w S g' s'.heap out f → Q f s'
  exc : ∀ k, out = .exc k → ∀ g' h0 e s', Inv w B S g' σ' { s' with heap := h0 } → Stp S g g' s.heap h0 → Ex S S.env.locals k e h0 s'.heap → E (.ref e) s'
section
variable {w : World} {B : Heap} {n : Nat} {S : Sit} {g g' : Option Addr} {σ σ' : AS} {s s' : Shared} {E : Value → Shared → Prop} {Q : Flow → Shared → Prop} {out : Out}
theorem PostS.step {g₁ : Option Addr} {s₁ : Shared} (q : PostS w B S g s σ' out Q E) (x : Stp S g g₁ s.heap s₁.heap) : PostS w B S g₁ s₁ σ' out Q E :=
  ⟨fun g' s' f V y o => q.ok g' s' f V (x.trans y) o, fun k hk g' h0 e s' V y z => q.exc k hk g' h0 e s' V (x.trans y) z⟩
theorem stp_kp {fl : FL} (V' : Inv w B S g ⟨σ.loc, fl⟩ s') (k : Kp S.fr (dl S.inst) s.heap s'.heap) : Stp S g g s.heap s'.heap := by
  refine ⟨k.mono fun b hb => List.mem_cons_of_mem _ (List.mem_append_right _ hb), .inl rfl, fun b o e => ?_⟩
  by_cases hm : b ∈ dl S.inst
  · obtain ⟨x, hI⟩ := mem_dl hm
    obtain ⟨o, _, _, ho, _⟩ := (V'.inst x b hI).dcl; exact ⟨o, ho⟩
  · obtain ⟨sl, e'⟩ := k.slots b o e hm; exact ⟨_, e'⟩
theorem Rep.keep2 {fr : List Env} {I : Option (Addr × Addr)} {h h' : Heap} {v : AV} {val : Value} (r : Rep w fr I g h v val) (k : ∀ b o, h.get? b = some o → (∃ vs m, o.data = .seq vs m) → ∃ sl, h'.get? b = some { o with slots := sl })
    (kd : ∀ b o, h.get? b = some o → Apart fr I b → h'.get? b = some o) : Rep w fr I g h' v val := by
  cases v with
  | «at» a => exact r
  | list l =>
    obtain ⟨a, vs, e, n, ⟨o, ho, hc, m, hd⟩, q⟩ := r; obtain ⟨sl, e'⟩ := k a o ho ⟨_, _, hd⟩; exact ⟨a, vs, e, n, ⟨_, e', hc, m, hd⟩, q⟩
  | tup l =>
    obtain ⟨a, vs, e, n, ⟨o, m, ho, hc, hd⟩, q⟩ := r; obtain ⟨sl, e'⟩ := k a o ho ⟨_, _, hd⟩; exact ⟨a, vs, e, n, ⟨_, m, e', hc, hd⟩, q⟩
  | own l =>
    obtain ⟨a, vs, e, n, ⟨o, m, ho, hc, hdd, hd⟩, q⟩ := r; obtain ⟨sl, e'⟩ := k a o ho ⟨_, _, hd⟩; exact ⟨a, vs, e, n, ⟨_, m, e', hc, hdd, hd⟩, q⟩
  | dict l =>
    obtain ⟨a, e, n, z, y, f, ⟨o, es, ep, ho, r1⟩, q⟩ := r; exact ⟨a, e, n, z, y, f, ⟨o, es, ep, kd a o ho z, r1⟩, q⟩
  | rng lo hi st =>
    obtain ⟨a, e, n, z, t, u, v, ha⟩ := r; exact ⟨a, e, n, z, t, u, v, kd a _ ha z⟩
theorem hinv_loc {fl : FL} {h h' : Heap} (hg : GoodS n B S) (H : HInv B S.fr S.inst fl h) (k : ∀ b o, b ≠ S.env.locals → h.get? b = some o → h'.get? b = some o) (hl : ∃ m, h'.Ns S.env.locals m) : HInv B S.fr S.inst fl h' := by
  have hL := hg.loc
  refine ⟨fun b o e => k b o (fun q => by rw [q, hg.newL] at e; cases e) (H.stays b o e), ?_, fun x dx q => (H.inst x dx q).keep (fun o => k x o fun z => (H.inst x dx q).xf (z ▸ hL)) (fun o => k dx o fun z => (H.inst x dx q).df (z ▸ hL))⟩
  have : ∀ {l : List Env}, h.FunFrames B l → h'.FunFrames B l := by
    intro l
    induction l with
    | nil => intro _; trivial
    | cons env r ih =>
      rintro ⟨hk, ⟨L, o, hf, hn, ho, hd⟩, hr⟩
      refine ⟨hk, ?_, ih hr⟩
      by_cases hx : L = S.env.locals
      · subst hx
        obtain ⟨m, o', es, ep, ho', hd', _⟩ := hl; exact ⟨_, o', hf, hn, ho', fun vs q => by rw [hd'] at q; cases q⟩
      · exact ⟨L, o, hf, hn, k L o hx ho, hd⟩
  exact this H.frs
theorem nodup_idx {α : Type} {l : List α} (h : l.Nodup) : ∀ {i j : Nat} {x : α}, l[i]? = some x → l[j]? = some x → i = j := by
  induction l with
  | nil => intro i j x e; simp at e
  | cons a l ih =>
    rw [List.nodup_cons] at h
    intro i j x e e'
    cases i with
    | zero =>
      cases j with
      | zero => rfl
      | succ j =>
        simp at e e'; subst e; exact absurd (List.mem_of_getElem? e') h.1
    | succ i =>
      cases j with
      | zero =>
        simp at e e'; subst e'; exact absurd (List.mem_of_getElem? e) h.1
      | succ j =>
        simp at e e'; rw [ih h.2 e e']
theorem store_ok {x : Str} {i : Nat} {v : AV} {val : Value} {R : Unit → Shared → Prop} (hg : GoodS n B S) (V : Inv w B S g σ s) (hx : S.names[i]? = some x) (hk : S.env.kindOf x = some .local) (ho : okSet i σ = true) (r : Rep w S.fr S.inst g s.heap v val) (hv : v.isDR = false)
    (q : ∀ s', Inv w B S g ⟨σ.loc.set i (some v), σ.fl⟩ s' → Stp S g g s.heap s'.heap → (∀ b o, b ≠ S.env.locals → s.heap.get? b = some o → s'.heap.get? b = some o) → R () s') : wpAny (model pw w) S.A (storeName S.env x val) R E s := by
  obtain ⟨m, hn⟩ := V.loc; refine wpAny_storeName_local hk hn (fun h' hn' hs => ?_) hg.store
  have k : ∀ b o, b ≠ S.env.locals → s.heap.get? b = some o → h'.get? b = some o := fun b o hb e => hs.extBut b o hb e
  have st : Stp S g g s.heap h' := by
    refine ⟨⟨fun b o e hd _ => k b o (fun z => hd (by rw [z]; exact .head _)) e, fun b o e hd => ⟨o.slots, k b o (fun z => hd (by rw [z]; exact .head _)) e⟩⟩, .inl rfl, fun b o e => ?_⟩
    by_cases hb : b = S.env.locals
    · subst hb; obtain ⟨o', _, _, ho', _⟩ := hn'; exact ⟨o', ho'⟩
    · exact ⟨o, k b o hb e⟩
  obtain ⟨oL, esL, epL, hoL, hdL, _⟩ := id hn
  have rk : ∀ {u : AV} {z : Value}, Rep w S.fr S.inst g s.heap u z → Rep w S.fr S.inst g h' u z := fun r => r.keep2 (fun b o e hd => ⟨o.slots, k b o (by
      rintro rfl
      rw [hoL] at e; cases e; obtain ⟨vs, j, hd⟩ := hd
      rw [hdL] at hd; cases hd) e⟩) fun b o e ha => k b o (fun z => ha.1 (z ▸ hg.loc)) e
  have own : ∀ i', i' ≠ i ∨ True → True := fun _ _ => trivial
  refine q { s with heap := h', toks := s.toks + 1 } { toHInv := hinv_loc hg V.toHInv k ⟨_, hn'⟩, loc := ⟨_, hn'⟩, vars := fun j u hu => ?_, dr := fun j u hu => ?_, len := by rw [List.length_set]; exact V.len, ld := V.ld, gown := fun a e => ?_, gens := V.gens, os := V.os } st k
  · by_cases hj : j = i
    · subst hj
      have hlt : j < σ.loc.length := by rw [V.len]; exact (List.getElem?_eq_some_iff.mp hx).1
      have : u = v := by
        rw [List.getElem?_set_self hlt] at hu; cases hu; rfl
      subst this; exact ⟨x, val, hx, .inl ⟨hk, _, hn', by simp⟩, rk r⟩
    · rw [List.getElem?_set_ne (Ne.symm hj)] at hu
      obtain ⟨y, z, e1, e2, e3⟩ := V.vars j u hu
      have hyx : y ≠ x := by
        rintro rfl
        exact hj (nodup_idx hg.nodup e1 hx)
      refine ⟨y, z, e1, ?_, rk e3⟩
      rcases e2 with ⟨k1, m1, hn1, hm1⟩ | ⟨k1, c, hc, o, hoc, hdc⟩
      · have em : m1 y = m y := by
          obtain ⟨o1, es1, ep1, ho1, hd1, _, f1⟩ := hn1; obtain ⟨o2, es2, ep2, ho2, hd2, _, f2⟩ := hn; rw [ho1] at ho2; cases ho2; rw [hd1] at hd2; cases hd2; rw [← f1, ← f2]
        exact .inl ⟨k1, _, hn', by simp [hyx, ← em, hm1]⟩
      · refine .inr ⟨k1, c, hc, o, k c o ?_ hoc, hdc⟩
        rintro rfl
        rw [hoL] at hoc; cases hoc; rw [hdL] at hdc; cases hdc
  · by_cases hj : j = i
    · subst hj
      have hlt : j < σ.loc.length := by rw [V.len]; exact (List.getElem?_eq_some_iff.mp hx).1
      rw [List.getElem?_set_self hlt] at hu; cases hu; exact hv
    · rw [List.getElem?_set_ne (Ne.symm hj)] at hu; exact V.dr j u hu
  · obtain ⟨h1, h2, h3, h4, h5, vs, o, j, e1, e2, e3, e4⟩ := V.gown a e
    refine ⟨?_, h2, h3, h4, h5, vs, o, j, k a o h2 e1, e2, e3, e4⟩; unfold hasOwn at h1 ⊢; rw [List.any_eq_true] at h1 ⊢; obtain ⟨z, hz, hz'⟩ := h1; obtain ⟨j', hj'⟩ := List.getElem?_of_mem hz; refine ⟨z, ?_, hz'⟩
    have hne : j' ≠ i := by
      rintro rfl
      unfold okSet at ho; rw [hj'] at ho
      cases z with
      | none => cases hz'
      | some u => cases u <;> first | (cases hz'; done) | (cases ho; done)
    exact List.mem_of_getElem? (i := j') (by rw [List.getElem?_set_ne (Ne.symm hne)]; exact hj')
end
end Mine
namespace Mine
section
variable {w : World} {B : Heap} {n N : Nat} {Γ : Call}
def SSt (w : World) (B : Heap) (n N : Nat) (Γ : Call) (cs : CS) : Prop := ∀ (c : Cx) (st : Stmt) (σ σ' : AS) (out : Out) (S : Sit) (g : Option Addr) (s : Shared) (Q : Flow → Shared → Prop) (E : Value → Shared → Prop),
  isS c cs st = true → Ctx c S → evS tabs Γ N cs σ = some (σ', out) → GoodS n B S → Inv w B S g σ s → PostS w B S g s σ' out Q E → wpAny (model pw w) S.A (exec st S.env) Q E s
def SBt (w : World) (B : Heap) (n N : Nat) (Γ : Call) (cb : CB) : Prop := ∀ (c : Cx) (sts : List Stmt) (σ σ' : AS) (out : Out) (S : Sit) (g : Option Addr) (s : Shared) (Q : Flow → Shared → Prop) (E : Value → Shared → Prop),
  isB c cb sts = true → Ctx c S → evB tabs Γ N cb σ = some (σ', out) → GoodS n B S → Inv w B S g σ s → PostS w B S g s σ' out Q E → wpAny (model pw w) S.A (execs sts S.env) Q E s
theorem Rep.keep3 {fr : List Env} {I : Option (Addr × Addr)} {g : Option Addr} {h h' : Heap} {v : AV} {val : Value} (r : Rep w fr I g h v val) (hv : v.isDR = false) (k : ∀ b o, h.get? b = some o → (∃ vs m, o.data = .seq vs m) → ∃ sl, h'.get? b = some { o with slots := sl }) : Rep w fr I g h' v val := by
  cases v with
  | «at» a => exact r
  | list l =>
    obtain ⟨a, vs, e, n, ⟨o, ho, hc, m, hd⟩, q⟩ := r; obtain ⟨sl, e'⟩ := k a o ho ⟨_, _, hd⟩; exact ⟨a, vs, e, n, ⟨_, e', hc, m, hd⟩, q⟩
  | tup l =>
    obtain ⟨a, vs, e, n, ⟨o, m, ho, hc, hd⟩, q⟩ := r; obtain ⟨sl, e'⟩ := k a o ho ⟨_, _, hd⟩; exact ⟨a, vs, e, n, ⟨_, m, e', hc, hd⟩, q⟩
  | own l =>
    obtain ⟨a, vs, e, n, ⟨o, m, ho, hc, hdd, hd⟩, q⟩ := r; obtain ⟨sl, e'⟩ := k a o ho ⟨_, _, hd⟩; exact ⟨a, vs, e, n, ⟨_, m, e', hc, hdd, hd⟩, q⟩
  | dict l => cases hv
  | rng lo hi st => cases hv
variable {S : Sit} {g g' : Option Addr} {σ σ' : AS} {s s' : Shared} {E : Value → Shared → Prop} {Q : Flow → Shared → Prop} {out : Out}
theorem Inv.butC {C : Addr} {h' : Heap} (V : Inv w B S g σ s) (F : Free B S.fr S.inst C) (hl : C ≠ S.env.locals) (hn : ∃ m, s.heap.Ns C m) (hs : Heap.SameBut C s.heap h') : Inv w B S g σ { s with heap := h' } := by
  obtain ⟨m, oC, es, ep, hoC, hdC, _⟩ := hn
  have k : ∀ b o, b ≠ C → s.heap.get? b = some o → h'.get? b = some o := fun b o hb e => hs.extBut b o hb e
  have ks : ∀ b o, s.heap.get? b = some o → (∃ vs m, o.data = .seq vs m) → ∃ sl, h'.get? b = some { o with slots := sl } := fun b o e hd => ⟨o.slots, k b o (by
    rintro rfl
    rw [hoC] at e; cases e; obtain ⟨vs, j, hd⟩ := hd
    rw [hdC] at hd; cases hd) e⟩
  refine { toHInv := V.toHInv.but F k, loc := ?_, vars := fun j u hu => ?_, dr := V.dr, len := V.len, ld := V.ld, gown := fun a e => ?_, gens := V.gens, os := V.os }
  · obtain ⟨m, hm⟩ := V.loc; exact ⟨m, hm.sameBut hs (Ne.symm hl)⟩
  · obtain ⟨y, z, e1, e2, e3⟩ := V.vars j u hu
    refine ⟨y, z, e1, ?_, e3.keep3 (V.dr j u hu) ks⟩
    rcases e2 with ⟨k1, m1, hn1, hm1⟩ | ⟨k1, c, hc, o, hoc, hdc⟩
    · exact .inl ⟨k1, m1, hn1.sameBut hs (Ne.symm hl), hm1⟩
    · refine .inr ⟨k1, c, hc, o, k c o ?_ hoc, hdc⟩
      rintro rfl
      rw [hoC] at hoc; cases hoc; rw [hdC] at hdc; cases hdc
  · obtain ⟨h1, h2, h3, h4, h5, vs, o, j, e1, e2, e3, e4⟩ := V.gown a e
    refine ⟨h1, h2, h3, h4, h5, vs, o, j, k a o ?_ e1, e2, e3, e4⟩
    rintro rfl
    rw [hoC] at e1; cases e1; rw [hdC] at e4; cases e4
theorem Stp.fresh {h0 h h' : Heap} {C : Addr} (x : Stp S g g' h0 h) (hC : h0.get? C = none) (k : ∀ b o, b ≠ C → h.get? b = some o → h'.get? b = some o) : Stp S g g' h0 h' := by
  refine ⟨x.kp.fresh hC k, x.gf, fun b o e => ?_⟩; obtain ⟨o', e'⟩ := x.ex b o e; exact ⟨o', k b o' (by rintro rfl; rw [hC] at e; cases e) e'⟩
theorem no_swap {c : Cx} {e : CE} {v : Expr} (hi : isE c e v = true) (hc : isComp v = false) (t : Option Expr) (l : Nat) (env : Env) : swapsWith v t l env = pure false := by
  cases v <;> first
    | rfl
    | (cases hc; done)
    | (exfalso; unfold isE at hi; split at hi <;> first | (cases hi; done) | (rename_i he; cases he; done) | (simp [isVar, isGlob] at hi; done))
theorem isLoc_name {c : Cx} {i : Nat} {e : Expr} (h : isLoc c i e = true) : ∃ x p, e = .Name x p ∧ c.names[i]? = some x ∧ c.kinds.lookup x = some .local := by
  unfold isLoc at h
  split at h
  · simp only [Bool.and_eq_true, beq_iff_eq] at h; exact ⟨_, _, rfl, h.1, h.2⟩
  · cases h
theorem isSt_dr {v : AV} (h : v.isSt = true) : v.isDR = false := by cases v <;> first | rfl | cases h
theorem case_assign (hf : Fixed w B) (hk : CallOk w B n Γ) (i : Nat) (e : CE) : SSt w B n N Γ (.assign i e) := by
  intro c st σ σ' out S g s Q E hi hc he hg V q
  obtain ⟨t, v, p, rfl, h⟩ := invS_assign hi; simp only [Bool.and_eq_true] at h; obtain ⟨⟨h1, h2⟩, h3⟩ := h; obtain ⟨x, px, rfl, hx, hkd⟩ := isLoc_name h1
  have hx' : S.names[i]? = some x := by rw [hc.1]; exact hx
  have hkd' : S.env.kindOf x = some .local := by unfold Env.kindOf; rw [hc.2]; exact hkd
  unfold evS at he
  split at he
  · rename_i u fl hu
    split at he
    · cases he
    · rename_i hcond
      rw [Bool.or_eq_true, not_or, Bool.not_eq_true, Bool.not_eq_true, Bool.not_eq_false', Bool.not_eq_false'] at hcond; obtain ⟨hst, hok⟩ := hcond
      cases he
      cases hcomp : isComp v with
      | false =>
        refine wpAny_Assign_Name ((soundE (w := w) (B := B) hf hk e).1 c v σ u fl S g s _ E h2 hc hu hg.toGood V fun val s₁ V₁ k₁ r₁ => ?_) (no_swap h2 hcomp _ _ _); refine store_ok hg V₁ hx' hkd' hok r₁ (isSt_dr hst) fun s₂ V₂ y₂ _ => ?_
        exact q.ok g s₂ .next V₂ ((stp_kp V₁ k₁).trans y₂) trivial
      | true =>
        obtain ⟨ex, gens, sc, pos, rfl⟩ := comp_shape h2 hcomp; rw [hcomp] at h3; simp only [Bool.not_true, Bool.false_or, Bool.and_eq_true, Bool.not_eq_true', beq_iff_eq] at h3
        have hsw : swapsWith (.ListComp ex gens sc pos) (some (.Name x px)) p.line S.env = pure true := by
          show (pure (S.env.blockKind == .function && S.env.kindOf x == some .local && px.line == pos.line && !(sc.names.any fun (n, k) => n == x && (k == .local || k == .cell))) : Sem Bool) = pure true
          have e1 : S.env.blockKind = .function := by unfold Env.blockKind; rw [hg.kind]; rfl
          have e2 : (px.line == pos.line) = true := by rw [beq_iff_eq]; exact h3.1
          rw [e1, hkd', e2]
          have : (sc.names.any fun (n, k) => n == x && (k == .local || k == .cell)) = false := h3.2
          rw [this]; rfl
        rw [exec_Assign_Name_used _ _ _ _ hsw]; refine wpAny_bind (wpAny_standAt (wpAny_bind ?_)); show wpAny _ _ (do let _ ← comprehension (.ListComp ex gens sc pos) sc S.env (firstIterPos gens pos) (newList []) (firstAsync gens) (firstIter gens S.env) (some (assign (.Name x px) S.env))) _ _ s; obtain ⟨elt, src, caps, hee⟩ : ∃ elt src caps, (e = .comp elt src caps) ∨ ∃ cond, e = .compIf elt src cond caps := by
          unfold isE at h2
          split at h2 <;> first | (cases h2; done) | (rename_i he; cases he; done) | skip
          all_goals first
            | exact ⟨_, _, _, .inl rfl⟩
            | exact ⟨_, _, _, .inr ⟨_, rfl⟩⟩
            | (exfalso; simp [isVar, isGlob] at h2; done)
        have hee' : (e = .comp elt src caps ∧ PE w B n Γ elt ∧ PE w B n Γ src) ∨ ∃ cond, e = .compIf elt src cond caps ∧ PE w B n Γ elt ∧ PE w B n Γ src ∧ PE w B n Γ cond := by
          rcases hee with rfl | ⟨cond, rfl⟩
          · exact .inl ⟨rfl, soundE hf hk _, soundE hf hk _⟩
          · exact .inr ⟨cond, rfl, soundE hf hk _, soundE hf hk _, soundE hf hk _⟩
        refine wpAny_bind (wpAny_mono (comp_use (use := some (assign (.Name x px) S.env)) (Q := fun _ s' => Q .next s') elt src caps hee' h2 hc hg.toGood g V hu fun D s' hgn V' K' R' _ => ?_) (fun _ s' hq => wpAny_pure (wpAny_pure hq)) fun _ _ e => e); subst hgn; show ∀ C, C ≠ D → (∃ m, s'.heap.Ns C m) → C ≠ S.env.locals → Free B S.fr S.inst C → s.heap.get? C = none → wpAny (model pw w) S.A (assign (.Name x px) S.env (.ref D)) _ E s'
        intro C hCD hn hCL hFC hCs
        refine wpAny_assign_Name (store_ok hg V' hx' hkd' hok R' (isSt_dr hst) fun s₂ V₂ y₂ k₂ => ?_); obtain ⟨m, hm⟩ := hn
        have hm2 : s₂.heap.Ns C m := hm.at' fun o e => k₂ C o hCL e
        refine ⟨⟨m, hm2⟩, fun h' hs => ?_⟩
        have V₃ := V₂.butC hFC hCL ⟨m, hm2⟩ hs
        exact q.ok none _ .next V₃ (((stp_kp V' K').trans y₂).fresh hCs fun b o hb e => hs.extBut b o hb e) trivial
  · cases he
end
end Mine
namespace Mine
theorem dutchSet (P : Params) : findIn (KK P) (.ref 407) "__setattr__" = some (some (.builtin "object.__setattr__")) := by kernel_rfl!
theorem dutchOver (P : Params) : plainOver (KK P) 407 = true := by kernel_rfl!
theorem fnamesND : fnames.Nodup := by decide +kernel
section
variable {w : World} {B : Heap} {n N : Nat} {Γ : Call} {S : Sit} {g g' : Option Addr} {σ σ' : AS} {s s' : Shared} {E : Value → Shared → Prop} {Q : Flow → Shared → Prop} {out : Out}
theorem isPl_handed {I : Option (Addr × Addr)} {a : Atom} {u : Value} (rp : isPl a = true) (ru : RepA I a u) : handedIn u = true := by
  unfold isPl at rp
  split at rp
  · obtain ⟨t, rfl⟩ := ru; rfl
  · obtain ⟨t, rfl⟩ := ru; rfl
  · cases ru; rfl
  · cases rp
theorem getf_ok {expr : Bool} {i : Nat} {x dx : Addr} {a : Str} {b : Atom} {R : Value → Shared → Prop} (hf : Fixed w B) (V : Inv w B S g σ s) (hI : S.inst = some (x, dx)) (h2 : fnames[i]? = some a) (hb : σ.fl[i]? = some (some b))
    (q : ∀ u, RepA S.inst b u → isPl b = true → R u { s with toks := s.toks + 1 }) : wpAny (model pw w) S.A (getAttr (.ref x) a expr) R E s := by
  have J := V.inst x dx hI
  obtain ⟨mA, hns, hno, hfl⟩ := J.ns
  have hv := hfl i a h2
  rw [hb] at hv; obtain ⟨u, hu, ru, rp⟩ := hv; obtain ⟨o', es, ep, ho, hd, hk, huq, hfind⟩ := hns
  have I : InstAt s.heap x ⟨.ref 407, some dx, .plain, #[]⟩ 407 (some o') := ⟨J.obj, rfl, rfl, ho⟩
  have X : (KK w.params).In s.heap := (kIn hf).keeps V.stays
  have hm : a ∈ fnames := List.mem_of_getElem? h2
  have hG := List.all_eq_true.mp (fldAll w.params) _ hm
  unfold fldGood at hG
  split at hG
  · rename_i attr hat
    rw [Bool.and_eq_true] at hG
    have hl : lookIn a o' = some (some u) := by rw [lookIn_of hd hk, hfind a, hu]
    exact get_value X I (dutchGet _) (findObj_own (dutchDict _) hat hG.1 hl) (isPl_handed rp ru) (q u (by rw [hI]; exact ru) rp)
  · cases hG
theorem setf_ok {i : Nat} {x dx : Addr} {nm : Str} {a : Atom} {val : Value} {R : Unit → Shared → Prop} (hf : Fixed w B) (V : Inv w B S g σ s) (hI : S.inst = some (x, dx)) (h2 : fnames[i]? = some nm) (ha : isPl a = true) (r : RepA S.inst a val)
    (q : ∀ s', Inv w B S g ⟨σ.loc, σ.fl.set i (some a)⟩ s' → Kp S.fr (dl S.inst) s.heap s'.heap → R () s') : wpAny (model pw w) S.A (setAttr (.ref x) nm val) R E s := by
  have J := V.inst x dx hI
  obtain ⟨mA, hns, hno, hfl⟩ := J.ns; obtain ⟨o', es, ep, ho, hd, hk, huq, hfind⟩ := id hns
  have I : InstAt s.heap x ⟨.ref 407, some dx, .plain, #[]⟩ 407 (some o') := ⟨J.obj, rfl, rfl, ho⟩
  have X : (KK w.params).In s.heap := (kIn hf).keeps V.stays
  have hm : nm ∈ fnames := List.mem_of_getElem? h2
  have hG := List.all_eq_true.mp (fldAll w.params) _ hm
  unfold fldGood at hG
  split at hG
  · rename_i attr hat
    rw [Bool.and_eq_true, beq_iff_eq] at hG; refine set_plain X I (dutchSet _) (osa_open (s := { s with toks := s.toks + 1 }) X I (dutchOver _) hG.2 fun b => ?_); obtain ⟨cd, hc, hd'⟩ := any_some (dutchDict w.params); refine wpAny_bind (wpAny_pure (wpAny_bind (wpAny_bind (wpAny_loadPart J.obj (wpAny_bind (looks_clsIn X hc _ _ _ _ (fun _ _ e => e) ?_)))))); rw [hd']; refine wpAny_pure (a := some dx) (wpAny_bind (wpAny_pure (wpAny_bind ?_))); refine wpAny_nsSet1 (m := mA) hns fun h' hn' hs => ?_
    have hw : Within (fun y => if y = nm then some val else mA y) fnames := fun y hy => by
      by_cases e : y = nm
      · rw [e]; exact hm
      · simp only [e, if_false] at hy
        cases hmem : decide (y ∈ fnames) with
        | true => exact of_decide_eq_true hmem
        | false => exact absurd (hno y (of_decide_eq_false hmem)) hy
    obtain ⟨oD, esD, epD, hoD, hdD, hcD⟩ := hn'.count hw; refine wpAny_bind (wpAny_lookBehind hoD (by rw [hdD]; exact pastItsLine_dict (Nat.le_trans hcD (by rw [sizeLine_eq]; decide))) ?_)
    have hsE := hs.extBut
    have hdl : dx ∈ dl S.inst := by rw [hI]; exact .head _
    have kp : Kp S.fr (dl S.inst) s.heap h' := .of_but hdl fun b o hb e => hsE b o hb e
    have hH : HInv B S.fr S.inst (σ.fl.set i (some a)) h' := by
      refine ⟨fun b o e => hsE b o (fun z => by rw [z, J.bd] at e; cases e) (V.stays b o e), frs_keep (fun b o e hm => ⟨o.slots, hsE b o (fun z => J.df (z ▸ hm)) e⟩) (fun _ h => h) V.frs, fun x' dx' hI' => ?_⟩; rw [hI] at hI'; cases hI'; refine ⟨hsE x _ (Ne.symm J.ne) J.obj, ⟨_, hn', fun y hy => ?_, fun j y hj => ?_⟩, ?_, by rw [List.length_set]; exact J.len, J.ne, J.xf, J.df, J.bx, J.bd⟩
      · rw [if_neg (fun (e : y = nm) => hy (e ▸ hm))]; exact hno y hy
      · by_cases hji : j = i
        · subst hji
          rw [h2] at hj; cases hj
          have hlt : j < σ.fl.length := by rw [J.len]; exact (List.getElem?_eq_some_iff.mp h2).1
          rw [List.getElem?_set_self hlt]; simp only [if_true]; exact ⟨val, rfl, by rw [← hI]; exact r, ha⟩
        · rw [List.getElem?_set_ne (Ne.symm hji)]
          have hne : y ≠ nm := fun e => hji (nodup_idx fnamesND (e ▸ hj) h2)
          rw [if_neg hne]; exact hfl j y hj
      · obtain ⟨o2, es2, ep2, ho2, hd2, _⟩ := hn'
        exact ⟨o2, es2, ep2, ho2, hd2⟩
    exact wpAny_pure (q _ (V.kp (s' := { s with heap := h', toks := s.toks + 1 + 1 }) hH kp V.gens V.os) kp)
  · cases hG
end
end Mine
namespace Mine
section
variable {w : World} {B : Heap} {n N : Nat} {Γ : Call}
theorem case_pass : SSt w B n N Γ .pass := by
  intro c st σ σ' out S g s Q E hi hc he hg V q
  obtain ⟨p, rfl, _⟩ := invS_pass hi; unfold evS at he; cases he; exact wpAny_Pass (q.ok g s .next V (.refl ..) trivial)
theorem case_brk : SSt w B n N Γ .brk := by
  intro c st σ σ' out S g s Q E hi hc he hg V q
  obtain ⟨p, rfl, _⟩ := invS_brk hi; unfold evS at he; cases he; exact wpAny_Break (q.ok g s .brk V (.refl ..) trivial)
theorem case_cont : SSt w B n N Γ .cont := by
  intro c st σ σ' out S g s Q E hi hc he hg V q
  obtain ⟨p, rfl, _⟩ := invS_cont hi; unfold evS at he; cases he; exact wpAny_Continue (q.ok g s .cont V (.refl ..) trivial)
theorem case_ret (hf : Fixed w B) (hk : CallOk w B n Γ) (e : CE) : SSt w B n N Γ (.ret e) := by
  intro c st σ σ' out S g s Q E hi hc he hg V q
  obtain ⟨x, p, rfl, h⟩ := invS_ret hi; unfold evS at he
  split at he
  · rename_i v fl hv
    split at he
    · cases he
    · rename_i ho
      cases he
      refine wpAny_Return_some ((soundE (w := w) (B := B) hf hk e).1 c x σ v fl S g s _ E h hc hv hg.toGood V fun val s₁ V₁ k₁ r₁ => ?_); exact q.ok g s₁ (.ret val) V₁ (stp_kp V₁ k₁) ⟨r₁, by simpa using ho⟩
  · cases he
theorem test_ok {S : Sit} {g : Option Addr} {s : Shared} {σ : AS} {E : Value → Shared → Prop} (hf : Fixed w B) (hk : CallOk w B n Γ) {c : Cx} {e : CE} {x : Expr} {b : Bool} {fl : FL} {R : Bool → Shared → Prop} (hi : isE c e x = true) (hc : Ctx c S) (hg : GoodS n B S) (V : Inv w B S g σ s) (he : evT tabs Γ e σ = some (b, fl))
    (q : ∀ s', Inv w B S g ⟨σ.loc, fl⟩ s' → Stp S g g s.heap s'.heap → R b s') : wpAny (model pw w) S.A (isTrue x S.env (eval x S.env)) R E s := by
  unfold evT at he
  split at he
  · rename_i v fl₁ hv
    obtain ⟨z, hz, e'⟩ := Option.map_eq_some_iff.mp he
    cases e'
    rw [truth_ab hz] at hv; exact (soundE (w := w) (B := B) hf hk e).2 c x σ b fl S g s _ E hi hc hv hg.toGood V fun s' V' k' => q s' V' (stp_kp V' k')
  · cases he
theorem case_assert (hf : Fixed w B) (hk : CallOk w B n Γ) (e : CE) : SSt w B n N Γ (.assert e) := by
  intro c st σ σ' out S g s Q E hi hc he hg V q
  obtain ⟨x, p, rfl, h⟩ := invS_assert hi; unfold evS at he
  split at he
  · rename_i fl hv
    cases he
    exact wpAny_Assert_holds (test_ok hf hk h hc hg V hv fun s' V' y => ⟨rfl, q.ok g s' .next V' y trivial⟩)
  · cases he
theorem case_ifs (hf : Fixed w B) (hk : CallOk w B n Γ) (t : CE) {a b : CB} (ha : SBt w B n N Γ a) (hb : SBt w B n N Γ b) : SSt w B n N Γ (.ite t a b) := by
  intro c st σ σ' out S g s Q E hi hc he hg V q
  obtain ⟨x, y, z, p, rfl, h⟩ := invS_ite hi; simp only [Bool.and_eq_true] at h; unfold evS at he
  split at he
  · rename_i fl hv
    refine wpAny_If (test_ok hf hk h.1.1 hc hg V hv fun s' V' y' => ?_); rw [if_pos rfl]; exact ha c y _ σ' out S g s' Q E h.1.2 hc he hg V' (q.step y')
  · rename_i fl hv
    refine wpAny_If (test_ok hf hk h.1.1 hc hg V hv fun s' V' y' => ?_); rw [if_neg (by simp)]; exact hb c z _ σ' out S g s' Q E h.2 hc he hg V' (q.step y')
  · cases he
theorem block_nil : SBt w B n N Γ .nil := by
  intro c sts σ σ' out S g s Q E hi hc he hg V q
  unfold evB at he; cases he
  cases sts with
  | nil => exact wpAny_execs_nil (q.ok g s .next V (.refl ..) trivial)
  | cons _ _ => simp [isB] at hi
theorem block_cons {st : CS} {r : CB} (h1 : SSt w B n N Γ st) (h2 : SBt w B n N Γ r) : SBt w B n N Γ (.cons st r) := by
  intro c sts σ σ' out S g s Q E hi hc he hg V q
  cases sts with
  | nil => simp [isB] at hi
  | cons x xs =>
    simp only [isB, Bool.and_eq_true] at hi; unfold evB at he; refine wpAny_execs_cons ?_
    cases hx : evS tabs Γ N st σ with
    | none => rw [hx] at he; cases he
    | some p =>
      obtain ⟨σ₁, o₁⟩ := p; rw [hx] at he; refine h1 c x σ σ₁ o₁ S g s _ _ hi.1 hc hx hg V ⟨fun g' s' f V' y o => ?_, fun k hk g' h0 e s' V' y z => ?_⟩
      · cases o₁ with
        | next =>
          cases f <;> first | (cases o; done) | skip
          exact h2 c xs σ₁ σ' out S g' s' Q E hi.2 hc he hg V' (q.step y)
        | brk => cases he; cases f <;> first | (cases o; done) | exact q.ok g' s' _ V' y o
        | cont => cases he; cases f <;> first | (cases o; done) | exact q.ok g' s' _ V' y o
        | ret v => cases he; cases f <;> first | (cases o; done) | exact q.ok g' s' _ V' y o
        | exc k => cases f <;> cases o
      · subst hk
        cases he
        exact q.exc k rfl g' h0 e s' V' y z
theorem case_setf (hf : Fixed w B) (hk : CallOk w B n Γ) (i : Nat) (e : CE) : SSt w B n N Γ (.setf i e) := by
  intro c st σ σ' out S g s Q E hi hc he hg V q
  obtain ⟨o, a, u1, v, u2, rfl, h⟩ := invS_setf hi; simp only [Bool.and_eq_true, Bool.not_eq_true', beq_iff_eq] at h; obtain ⟨⟨⟨h1, h2⟩, h3⟩, h4⟩ := h; unfold evS at he
  split at he
  · rename_i hs
    split at he
    · rename_i b fl hv
      split at he
      · rename_i hp
        cases he
        refine plainObj_wpAny_Assign_Attribute ?_ (no_swap h3 h4 _ _ _); refine (soundE (w := w) (B := B) hf hk e).1 c v σ _ fl S g s _ E h3 hc hv hg.toGood V fun val s₁ V₁ k₁ r₁ => ?_
        refine self_ok (n := n) h1 hc hg.toGood V₁ (selfIs_var hs) fun x dx hI => ?_
        refine setf_ok hf V₁ hI h2 hp r₁ fun s₂ V₂ k₂ => ?_
        exact q.ok g s₂ .next V₂ (stp_kp V₂ (k₁.trans k₂)) trivial
      · cases he
    · cases he
  · cases he
theorem aug_ok {o : Bop} {x y v : AV} {a b : Value} {op : Operator} {S : Sit} {g : Option Addr} {s : Shared} {E : Value → Shared → Prop} {R : Value → Shared → Prop} (hop : isBop o op = true) (e : augV o x y = some v) (fr : List Env)
    (ra : Rep w fr S.inst g s.heap x a) (rb : Rep w fr S.inst g s.heap y b) (q : ∀ i, v = ai i → R (.int i s.toks) { s with toks := s.toks + 1 }) :
    wpAny (model pw w) S.A (inplaceOp op a b) R E s := by
  unfold augV at e; unfold isBop at hop
  split at e
  · split at hop <;> first | cases hop | skip
    all_goals first
      | (rename_i h; cases h; done)
      | (cases e; obtain ⟨t, rfl⟩ := ra; obtain ⟨u, rfl⟩ := rb; exact P.iadd_int (q _ rfl))
  · split at hop <;> first | cases hop | skip
    all_goals first
      | (rename_i h; cases h; done)
      | (cases e; obtain ⟨t, rfl⟩ := ra; obtain ⟨u, rfl⟩ := rb; exact P.isub_int (q _ rfl))
  · cases e
theorem case_augf (hf : Fixed w B) (hk : CallOk w B n Γ) (i : Nat) (o : Bop) (e : CE) : SSt w B n N Γ (.augf i o e) := by
  intro c st σ σ' out S g s Q E hi hc he hg V q
  obtain ⟨x, a, u1, op, v, u2, rfl, h⟩ := invS_augf hi; simp only [Bool.and_eq_true, beq_iff_eq] at h; obtain ⟨⟨⟨⟨h1, h2⟩, h3⟩, h4⟩, _⟩ := h; unfold evS at he
  split at he
  · rename_i hs
    split at he
    · rename_i b hb
      split at he
      · rename_i y fl hv
        split at he
        · rename_i z hz
          split at he
          · rename_i hp
            cases he
            refine wpAny_AugAssign_AttributeAny ?_; refine self_ok (n := n) h1 hc hg.toGood V (selfIs_var hs) fun ix dx hI => ?_
            refine getf_ok hf V hI h2 hb fun old ro _ => ?_
            refine (soundE (w := w) (B := B) hf hk e).1 c v σ _ fl S g { s with toks := s.toks + 1 } _ E h4 hc hv hg.toGood (V.keep fun _ _ e => e) fun val s₁ V₁ k₁ r₁ => ?_
            refine aug_ok h3 hz S.fr ro r₁ fun j hj => ?_
            cases hj
            refine setf_ok hf (V₁.keep (s' := { s₁ with toks := s₁.toks + 1 }) fun _ _ e => e) hI h2 hp ⟨_, rfl⟩ fun s₂ V₂ k₂ => ?_
            exact q.ok g s₂ .next V₂ (stp_kp V₂ (k₁.trans k₂)) trivial
          · cases he
        · cases he
      · cases he
    · cases he
  · cases he
theorem case_aug (hf : Fixed w B) (hk : CallOk w B n Γ) (i : Nat) (o : Bop) (e : CE) : SSt w B n N Γ (.aug i o e) := by
  intro c st σ σ' out S g s Q E hi hc he hg V q
  obtain ⟨x, p, op, v, u2, rfl, h⟩ := invS_aug hi; simp only [Bool.and_eq_true] at h; obtain ⟨⟨⟨h1, h3⟩, h4⟩, _⟩ := h; obtain ⟨y, px, e1, hx, hkd⟩ := isLoc_name h1
  cases e1
  have hx' : S.names[i]? = some x := by rw [hc.1]; exact hx
  have hkd' : S.env.kindOf x = some .local := by unfold Env.kindOf; rw [hc.2]; exact hkd
  unfold evS at he
  split at he
  · rename_i a ha
    split at he
    · rename_i y fl hv
      split at he
      · rename_i z hz
        cases he
        obtain ⟨x', val, e1, e2, e3⟩ := V.vars i a ha; rw [hx'] at e1; cases e1; refine wpAny_AugAssign_Name ?_
        have go : wpAny (model pw w) S.A (eval v S.env) (fun v s₂ => wpAny (model pw w) S.A (inplaceOp op val v) (fun r s₃ => wpAny (model pw w) S.A (storeName S.env x r) (fun _ => Q .next) E s₃) E s₂) E s := by
          refine (soundE (w := w) (B := B) hf hk e).1 c v σ _ fl S g s _ E h4 hc hv hg.toGood V fun val' s₁ V₁ k₁ r₁ => ?_
          refine aug_ok h3 hz S.fr (e3.kp V.toHInv k₁) r₁ fun j hj => ?_
          cases hj
          have hok : okSet i ⟨σ.loc, fl⟩ = true := by
            unfold okSet; simp only; rw [ha]
            cases a <;> first | rfl | (exfalso; cases o <;> cases hz)
          refine store_ok hg (V₁.keep (s' := { s₁ with toks := s₁.toks + 1 }) fun _ _ e => e) hx' hkd' hok (v := ai j) ⟨_, rfl⟩ rfl fun s₂ V₂ y₂ _ => ?_
          exact q.ok g s₂ .next V₂ ((stp_kp V₁ k₁).trans y₂) trivial
        rcases e2 with ⟨hk', m, hn, hm⟩ | ⟨hk', b, hb, oo, ho, hd⟩
        · exact wpAny_loadName_local hg.kind hk' hn hm go
        · exact wpAny_loadName_cell hg.kind hk' hb ⟨oo, ho, hd⟩ go
      · cases he
    · cases he
  · cases he
theorem drop_ok {e : Expr} {pos : Pos} {v : Value} {A : Around} {E : Value → Shared → Prop} {s : Shared} {Q : Flow → Shared → Prop} (q : Q .next s) : wpAny (model pw w) A (dropValue e pos v) Q E s := by
  unfold dropValue
  split
  · exact wpAny_pure q
  · exact wpAny_bind (wpAny_standAt (wpAny_bind (wpAny_runValue (codeAny_builtin entry_let_go (show wpAny _ _ (ret .none) _ _ s from wpAny_pure (wpAny_pure q))))))
  · exact wpAny_pure q
theorem case_expr (hf : Fixed w B) (hk : CallOk w B n Γ) (e : CE) : SSt w B n N Γ (.expr e) := by
  intro c st σ σ' out S g s Q E hi hc he hg V q
  obtain ⟨v, p, rfl, h⟩ := invS_expr hi; simp only [Bool.and_eq_true] at h; unfold evS at he
  split at he
  · rename_i u fl hv
    cases he
    have hcomp : isComp v = false := by cases v <;> first | rfl | (simp at h)
    rw [exec_Expr _ _ _ hg.inter (no_swap h.1 hcomp _ _ _)]; refine wpAny_bind (wpAny_standAt (wpAny_bind ((soundE (w := w) (B := B) hf hk e).1 c v σ u fl S g s _ E h.1 hc hv hg.toGood V fun val s₁ V₁ k₁ r₁ => ?_))); exact drop_ok (q.ok g s₁ .next V₁ (stp_kp V₁ k₁) trivial)
  · cases he
end
end Mine
namespace Mine
section
variable {w : World} {B : Heap} {n N : Nat} {Γ : Call}
theorem case_while (hf : Fixed w B) (hk : CallOk w B n Γ) (t : CE) {b : CB} (hb : SBt w B n N Γ b) : SSt w B n N Γ (.while t b) := by
  intro c st σ σ' out S g s Q E hi hc he hg V q
  obtain ⟨x, y, p, rfl, h⟩ := invS_while hi; simp only [Bool.and_eq_true] at h; unfold evS at he; refine wpAny_While ?_; obtain ⟨outer, houter⟩ := hg.outer; refine codeAny_whileLoop (fun k s' => ∃ g' σ₁, Inv w B S g' σ₁ s' ∧ Stp S g g' s.heap s'.heap ∧ whileN (evT tabs Γ t) (fun σ => evB tabs Γ N b σ) k σ₁ = some (σ', out)) ?_ N ⟨g, σ, V, .refl .., he⟩
  rintro k s' ⟨g', σ₁, V', y', he'⟩
  cases k with
  | zero => cases he'
  | succ k =>
    unfold whileN at he'
    split at he'
    · rename_i fl ht
      refine test_ok hf hk h.1 hc hg V' ht fun s₂ V₂ y₂ => ?_
      rw [if_pos rfl]
      cases hbd : evB tabs Γ N b ⟨σ₁.loc, fl⟩ with
      | none => simp only [hbd] at he'; cases he'
      | some pr =>
        obtain ⟨σ₂, o₂⟩ := pr; simp only [hbd] at he'
        have y₁₂ := y'.trans y₂
        refine hb c y _ σ₂ o₂ S g' s₂ _ _ h.2 hc hbd hg V₂ ⟨fun g₃ s₃ f V₃ y₃ o₃ => ?_, fun j hj g₃ h0 e s₃ V₃ y₃ z₃ => ?_⟩
        · cases o₂ with
          | next =>
            cases f <;> first | (cases o₃; done) | skip
            exact ⟨k, Nat.lt_succ_self _, g₃, σ₂, V₃, y₁₂.trans y₃, he'⟩
          | cont =>
            cases f <;> first | (cases o₃; done) | skip
            exact ⟨k, Nat.lt_succ_self _, g₃, σ₂, V₃, y₁₂.trans y₃, he'⟩
          | brk =>
            cases he'
            cases f <;> first | (cases o₃; done) | skip
            exact q.ok g₃ s₃ .next V₃ (y₁₂.trans y₃) trivial
          | ret v =>
            cases he'
            cases f <;> first | (cases o₃; done) | skip
            exact q.ok g₃ s₃ _ V₃ (y₁₂.trans y₃) o₃
          | exc j => cases f <;> cases o₃
        · subst hj
          cases he'
          refine note_ok houter hg.stack hg.frame V₃.toHInv z₃ fun h' hh => ?_
          refine back_ok (s := { s₃ with heap := h' }) hg.frame hh fun h'' hh' => ?_
          exact q.exc j rfl g₃ h0 e { s₃ with heap := h'' } V₃ (y₁₂.trans y₃) (.inr hh')
    · rename_i fl ht
      cases he'
      refine test_ok hf hk h.1 hc hg V' ht fun s₂ V₂ y₂ => ?_
      rw [if_neg (by simp)]; exact wpAny_execs_nil (q.ok g' s₂ .next V₂ (y'.trans y₂) trivial)
    · cases he'
theorem locals_ex {S : Sit} {g : Option Addr} {σ : AS} {s : Shared} (V : Inv w B S g σ s) : ∃ o, s.heap.get? S.env.locals = some o := by
  obtain ⟨m, o, _, _, ho, _⟩ := V.loc; exact ⟨o, ho⟩
theorem isComp_of {a : Prop} (h : a) : a := h
theorem case_for (hf : Fixed w B) (hk : CallOk w B n Γ) (i : Nat) (e : CE) {b : CB} (hb : SBt w B n N Γ b) : SSt w B n N Γ (.for i e b) := by
  intro c st σ σ' out S g s Q E hi hc he hg V q
  obtain ⟨t, x, y, p, rfl, h⟩ := invS_for hi; simp only [Bool.and_eq_true] at h; obtain ⟨⟨⟨h1, h2⟩, h3⟩, h4⟩ := h; obtain ⟨z, pz, rfl, hz, hkd⟩ := isLoc_name h1
  have hz' : S.names[i]? = some z := by rw [hc.1]; exact hz
  have hkd' : S.env.kindOf z = some .local := by unfold Env.kindOf; rw [hc.2]; exact hkd
  unfold evS at he
  split at he
  · rename_i v fl hv
    split at he
    · rename_i its hits
      refine wpAny_For ((soundE (w := w) (B := B) hf hk e).1 c x σ v fl S g s _ E h2 hc hv hg.toGood V fun val s₁ V₁ k₁ r₁ => ?_) (notSet_folded h4); refine iter_ok hits V₁ r₁ fun I h' hit hkp hfr => ?_
      have FI : Free B S.fr S.inst I := .of V₁.toHInv hfr
      have hIL : I ≠ S.env.locals := by
        rintro rfl
        obtain ⟨o, ho⟩ := locals_ex V₁; rw [hfr] at ho; cases ho
      have V₁' : Inv w B S g ⟨σ.loc, fl⟩ { s₁ with heap := h' } := V₁.keep hkp
      refine codeAny_forLoop (fun k s' => ∃ rest g' σ₁, ItIs S.inst g' s'.heap I rest ∧ g' ≠ some I ∧ Inv w B S g' σ₁ s' ∧ Stp S g g' s₁.heap s'.heap ∧ forN i (fun σ => evB tabs Γ N b σ) rest σ₁ = some (σ', out) ∧ k = rest.length + 1) ?_ (its.length + 1)
        ⟨its, g, _, hit, fresh_g V₁ hfr, V₁', ⟨.of_keep hkp, .inl rfl, fun b o e => ⟨o, hkp b o e⟩⟩, he, rfl⟩
      rintro k s' ⟨rest, g', σ₁, it', hgI, V', y', he', rfl⟩
      have stepI : ∀ (h'' : Heap) (tk : Nat), Heap.ExtBut I s'.heap h'' → Inv w B S g' σ₁ { s' with heap := h'', toks := tk } ∧ Stp S g g' s₁.heap h'' := by
        intro h'' tk hs
        refine ⟨?_, y'.fresh hfr fun b o hb e => hs b o hb e⟩
        have sI : ∃ o, s'.heap.get? I = some o ∧ (∀ es ep, o.data ≠ .dict es ep) ∧ (∀ vs m, o.data ≠ .seq vs m) ∧ (∀ v, o.data ≠ .cell v) := by
          cases it' with
          | list ax vs j l h1 => obtain ⟨o, ho, _, hd⟩ := h1; exact ⟨o, ho, (fun _ _ e => by rw [hd] at e; cases e), (fun _ _ e => by rw [hd] at e; cases e), (fun _ e => by rw [hd] at e; cases e)⟩
          | ascii x t j h1 => obtain ⟨o, ho, _, hd⟩ := h1; exact ⟨o, ho, (fun _ _ e => by rw [hd] at e; cases e), (fun _ _ e => by rw [hd] at e; cases e), (fun _ e => by rw [hd] at e; cases e)⟩
          | wide x t j h1 => obtain ⟨o, ho, _, hd⟩ := h1; exact ⟨o, ho, (fun _ _ e => by rw [hd] at e; cases e), (fun _ _ e => by rw [hd] at e; cases e), (fun _ e => by rw [hd] at e; cases e)⟩
          | range lo st j h1 => exact ⟨_, h1, (fun _ _ e => by cases e), (fun _ _ e => by cases e), (fun _ e => by cases e)⟩
        obtain ⟨oI, hoI, nd, ns, nc⟩ := sI
        have ks : ∀ b o, s'.heap.get? b = some o → (∃ vs m, o.data = .seq vs m) → ∃ sl, h''.get? b = some { o with slots := sl } := fun b o e hd => ⟨o.slots, hs b o (by
          rintro rfl
          rw [hoI] at e; cases e; obtain ⟨vs, m, hd⟩ := hd
          exact ns vs m hd) e⟩
        refine { toHInv := V'.toHInv.but FI fun b o hb e => hs b o hb e, loc := ?_, vars := fun j u hu => ?_, dr := V'.dr, len := V'.len, ld := V'.ld, gown := fun a e => ?_, gens := V'.gens, os := V'.os }
        · obtain ⟨m, hm⟩ := V'.loc; exact ⟨m, hm.extBut hs (Ne.symm hIL)⟩
        · obtain ⟨y, z, e1, e2, e3⟩ := V'.vars j u hu
          refine ⟨y, z, e1, ?_, e3.keep3 (V'.dr j u hu) ks⟩
          rcases e2 with ⟨k1, m1, hn1, hm1⟩ | ⟨k1, c, hc, o, hoc, hdc⟩
          · exact .inl ⟨k1, m1, hn1.extBut hs (Ne.symm hIL), hm1⟩
          · refine .inr ⟨k1, c, hc, o, hs c o ?_ hoc, hdc⟩
            rintro rfl
            rw [hoI] at hoc; cases hoc; exact nc _ hdc
        · obtain ⟨h1, h2, h3, h4, h5, vs, o, j, e1, e2, e3, e4⟩ := V'.gown a e
          refine ⟨h1, h2, h3, h4, h5, vs, o, j, hs a o ?_ e1, e2, e3, e4⟩
          rintro rfl
          exact hgI e
      have y₀ := stp_kp V₁ k₁
      cases rest with
      | nil =>
        unfold forN at he'; cases he'; refine next_none hg.handled it' fun h'' tk hs => ?_
        obtain ⟨V₂, y₂⟩ := stepI h'' tk hs; exact wpAny_execs_nil (q.ok g' _ .next V₂ (y₀.trans y₂) trivial)
      | cons a rest =>
        refine next_some it' fun v h'' tk ra it₁ hs => ?_
        obtain ⟨V₂, y₂⟩ := stepI h'' tk hs.extBut; unfold forN at he'
        split at he'
        · rename_i hok
          refine wpAny_assign_Name (store_ok (v := .at a) hg V₂ hz' hkd' hok ra rfl fun s₃ V₃ y₃ kl => ?_)
          have it₃ : ItIs S.inst g' s₃.heap I rest := it₁.keep (fun o e => kl I o hIL e) (fun b o e _ hd _ => ⟨o.slots, kl b o (by
            rintro rfl
            obtain ⟨m, o2, es, ep, ho2, hd2, _⟩ := V₂.loc
            have : o2 = o := Option.some.inj (ho2.symm.trans e)
            subst this; obtain ⟨vs, m, hd⟩ := hd
            rw [hd2] at hd; cases hd) e⟩) (.inl rfl)
          cases hbd : evB tabs Γ N b ⟨σ₁.loc.set i (some (.at a)), σ₁.fl⟩ with
          | none => simp only [hbd] at he'; cases he'
          | some pr =>
            obtain ⟨σ₄, o₄⟩ := pr; simp only [hbd] at he'
            have y₁₃ := y₂.trans y₃
            refine hb c y _ σ₄ o₄ S g' s₃ _ _ h3 hc hbd hg V₃ ⟨fun g₄ s₄ f V₄ y₄ z₄ => ?_, fun j hj g₄ h0 e s₄ V₄ y₄ z₄ => ?_⟩
            · have sI3 : ∃ o, s₃.heap.get? I = some o := by
                cases it₃ with
                | list ax vs j l h1 => obtain ⟨o, ho, _⟩ := h1; exact ⟨o, ho⟩
                | ascii x t j h1 => obtain ⟨o, ho, _⟩ := h1; exact ⟨o, ho⟩
                | wide x t j h1 => obtain ⟨o, ho, _⟩ := h1; exact ⟨o, ho⟩
                | range lo st j h1 => exact ⟨_, h1⟩
              have hgI4 : g₄ ≠ some I := by
                rcases y₄.gf with rfl | ⟨d, rfl, hd⟩
                · exact hgI
                · intro e; cases e; obtain ⟨o, ho⟩ := sI3; rw [hd] at ho; cases ho
              have hId : I ∉ dS S g' := by
                simp only [dS, List.mem_cons, List.mem_append, not_or]; refine ⟨hIL, ?_, FI.dl⟩
                intro hm
                cases g' with
                | none => cases hm
                | some d => simp at hm; exact hgI (by rw [hm])
              have it₄ : ItIs S.inst g₄ s₄.heap I rest := it₃.keep (fun o e => y₄.kp.exact I o e hId FI.f) (fun b o e _ hd hgb => y₄.kp.slots b o e (by
                simp only [dS, List.mem_cons, List.mem_append, not_or]; refine ⟨?_, ?_, not_dl_data V₃.toHInv e fun es ep qq => by obtain ⟨vs, m, hd⟩ := hd; rw [qq] at hd; cases hd⟩
                · rintro rfl
                  obtain ⟨m, o2, es, ep, ho2, hd2, _⟩ := V₃.loc
                  have : o2 = o := Option.some.inj (ho2.symm.trans e)
                  subst this; obtain ⟨vs, m, hd⟩ := hd; rw [hd2] at hd; cases hd
                · intro hm
                  cases g' with
                  | none => cases hm
                  | some d => simp at hm; exact hgb (by rw [hm]))) y₄.gf
              cases o₄ with
              | next =>
                cases f <;> first | (cases z₄; done) | skip
                exact ⟨rest.length + 1, by simp, rest, g₄, σ₄, it₄, hgI4, V₄, y₁₃.trans y₄, he', rfl⟩
              | cont =>
                cases f <;> first | (cases z₄; done) | skip
                exact ⟨rest.length + 1, by simp, rest, g₄, σ₄, it₄, hgI4, V₄, y₁₃.trans y₄, he', rfl⟩
              | brk =>
                cases he'
                cases f <;> first | (cases z₄; done) | skip
                exact q.ok g₄ s₄ .next V₄ (y₀.trans (y₁₃.trans y₄)) trivial
              | ret v => cases he'
              | exc j => cases he'
            · subst hj; cases he'
        · cases he'
    · cases he
  · cases he
end
end Mine
namespace Mine
section
variable {w : World} {B : Heap} {n N : Nat} {Γ : Call} {S : Sit} {g : Option Addr} {σ : AS} {s : Shared} {E : Value → Shared → Prop}
theorem rep_there {fr : List Env} {I : Option (Addr × Addr)} {h : Heap} {v : AV} {D : Addr} (r : Rep w fr I g h v (.ref D)) (hv : ∀ a, v ≠ .at a) : ∃ o, h.get? D = some o := by
  cases v with
  | «at» a => exact absurd rfl (hv a)
  | list l => obtain ⟨a, vs, e, n, ⟨o, ho, _⟩, q⟩ := r; cases e; exact ⟨o, ho⟩
  | tup l => obtain ⟨a, vs, e, n, ⟨o, m, ho, _⟩, q⟩ := r; cases e; exact ⟨o, ho⟩
  | own l => obtain ⟨a, vs, e, n, ⟨o, m, ho, _⟩, q⟩ := r; cases e; exact ⟨o, ho⟩
  | dict l => obtain ⟨a, e, n, z, y, f, ⟨o, es, ep, ho, _⟩, q⟩ := r; cases e; exact ⟨o, ho⟩
  | rng lo hi st => obtain ⟨a, e, n, z, t, u, v, ha⟩ := r; cases e; exact ⟨_, ha⟩
theorem Rep.regrow {fr : List Env} {I : Option (Addr × Addr)} {h : Heap} {v : AV} {val : Value} {D : Addr} (r : Rep w fr I none h v val) (hD : h.get? D = none) : Rep w fr I (some D) h v val := by
  have no : ∀ {a : Addr}, (∃ o, h.get? a = some o) → some D ≠ some a := fun ⟨o, e⟩ q => by cases q; rw [hD] at e; cases e
  cases v with
  | «at» a => exact r
  | list l => obtain ⟨a, vs, e, n, x, q⟩ := r; exact ⟨a, vs, e, no (let ⟨o, ho, _⟩ := x; ⟨o, ho⟩), x, q⟩
  | tup l => obtain ⟨a, vs, e, n, x, q⟩ := r; exact ⟨a, vs, e, no (let ⟨o, _, ho, _⟩ := x; ⟨o, ho⟩), x, q⟩
  | own l => obtain ⟨a, vs, e, n, x, q⟩ := r; cases n
  | dict l => obtain ⟨a, e, n, z, x⟩ := r; exact ⟨a, e, no (let ⟨_, _, ⟨o, _, _, ho, _⟩, _⟩ := x; ⟨o, ho⟩), z, x⟩
  | rng lo hi st => obtain ⟨a, e, n, z, t, u, v, ha⟩ := r; exact ⟨a, e, no ⟨_, ha⟩, z, t, u, v, ha⟩
theorem own_ok {x : Str} {i : Nat} {D : Addr} {h₁ : Heap} {R : Unit → Shared → Prop} (hg : GoodS n B S) (V : Inv w B S none σ s) (hx : S.names[i]? = some x) (hk : S.env.kindOf x = some .local)
    (hD : s.heap.get? D = none) (k0 : ∀ b o, s.heap.get? b = some o → h₁.get? b = some o) (hO : OwnIs h₁ D #[])
    (q : ∀ s', Inv w B S (some D) ⟨σ.loc.set i (some (.own [])), σ.fl⟩ s' → Stp S none (some D) s.heap s'.heap → R () s') : wpAny (model pw w) S.A (storeName S.env x (.ref D)) R E { s with heap := h₁ } := by
  have V₁ : Inv w B S none σ { s with heap := h₁ } := V.keep k0
  obtain ⟨m, hn⟩ := V₁.loc; refine wpAny_storeName_local hk hn (fun h' hn' hs => ?_) hg.store
  have k1 : ∀ b o, b ≠ S.env.locals → h₁.get? b = some o → h'.get? b = some o := fun b o hb e => hs.extBut b o hb e
  have k : ∀ b o, b ≠ S.env.locals → s.heap.get? b = some o → h'.get? b = some o := fun b o hb e => k1 b o hb (k0 b o e)
  have F := Free.of V.toHInv hD
  obtain ⟨oL, esL, epL, hoL, hdL, _⟩ := id V.loc.choose_spec
  have hDL : D ≠ S.env.locals := by rintro rfl; rw [hD] at hoL; cases hoL
  have st : Stp S none (some D) s.heap h' := by
    refine ⟨⟨fun b o e hd _ => k b o (fun z => hd (by rw [z]; exact .head _)) e, fun b o e hd => ⟨o.slots, k b o (fun z => hd (by rw [z]; exact .head _)) e⟩⟩, .inr ⟨D, rfl, hD⟩, fun b o e => ?_⟩
    by_cases hb : b = S.env.locals
    · subst hb; obtain ⟨o', _, _, ho', _⟩ := hn'; exact ⟨o', ho'⟩
    · exact ⟨o, k b o hb e⟩
  have rk : ∀ {u : AV} {z : Value}, Rep w S.fr S.inst none s.heap u z → Rep w S.fr S.inst (some D) h' u z := fun r => (r.regrow hD).keep2 (fun b o e hd => ⟨o.slots, k b o (by
      rintro rfl
      rw [hoL] at e; cases e; obtain ⟨vs, j, hd⟩ := hd
      rw [hdL] at hd; cases hd) e⟩) fun b o e ha => k b o (fun z => ha.1 (z ▸ hg.loc)) e
  have hlt : i < σ.loc.length := by rw [V.len]; exact (List.getElem?_eq_some_iff.mp hx).1
  have hO' : OwnIs h' D #[] := by
    obtain ⟨o, j, e1, e2, e3, e4⟩ := hO; exact ⟨o, j, k1 D o hDL e1, e2, e3, e4⟩
  refine q { s with heap := h', toks := s.toks + 1 } { toHInv := hinv_loc hg V.toHInv k ⟨_, hn'⟩, loc := ⟨_, hn'⟩, vars := fun j u hu => ?_, dr := fun j u hu => ?_, len := by rw [List.length_set]; exact V.len, ld := V.ld, gown := fun a e => ?_, gens := V.gens, os := V.os } st
  · by_cases hj : j = i
    · subst hj
      have : u = .own [] := by
        rw [List.getElem?_set_self hlt] at hu; cases hu; rfl
      subst this; exact ⟨x, .ref D, hx, .inl ⟨hk, _, hn', by simp⟩, D, #[], rfl, rfl, hO', .nil⟩
    · rw [List.getElem?_set_ne (Ne.symm hj)] at hu
      obtain ⟨y, z, e1, e2, e3⟩ := V.vars j u hu
      have hyx : y ≠ x := by
        rintro rfl
        exact hj (nodup_idx hg.nodup e1 hx)
      refine ⟨y, z, e1, ?_, rk e3⟩
      rcases e2 with ⟨k1', m1, hn1, hm1⟩ | ⟨k1', c, hc, o, hoc, hdc⟩
      · have em : m1 y = m y := by
          obtain ⟨o1, es1, ep1, ho1, hd1, _, f1⟩ := hn1; obtain ⟨o2, es2, ep2, ho2, hd2, _, f2⟩ := hn
          have := k0 _ _ ho1
          rw [this] at ho2; cases ho2; rw [hd1] at hd2; cases hd2; rw [← f1, ← f2]
        exact .inl ⟨k1', _, hn', by simp [hyx, ← em, hm1]⟩
      · refine .inr ⟨k1', c, hc, o, k c o ?_ hoc, hdc⟩
        rintro rfl
        rw [hoL] at hoc; cases hoc; rw [hdL] at hdc; cases hdc
  · by_cases hj : j = i
    · subst hj
      rw [List.getElem?_set_self hlt] at hu; cases hu; rfl
    · rw [List.getElem?_set_ne (Ne.symm hj)] at hu; exact V.dr j u hu
  · cases e
    refine ⟨?_, hDL, F.dl, F.f, F.b, #[], hO'⟩; unfold hasOwn; rw [List.any_eq_true]; exact ⟨_, List.mem_of_getElem? (List.getElem?_set_self hlt), rfl⟩
theorem case_newOwn (i : Nat) : SSt w B n N Γ (.newOwn i) := by
  intro c st σ σ' out S g s Q E hi hc he hg V q
  obtain ⟨t, u1, p, rfl, h1⟩ := invS_newOwn hi; obtain ⟨x, px, rfl, hx, hkd⟩ := isLoc_name h1
  have hx' : S.names[i]? = some x := by rw [hc.1]; exact hx
  have hkd' : S.env.kindOf x = some .local := by unfold Env.kindOf; rw [hc.2]; exact hkd
  unfold evS at he
  split at he
  · cases he
  · rename_i hcond
    rw [Bool.or_eq_true, not_or, Bool.not_eq_true, Bool.not_eq_true, Bool.not_eq_false'] at hcond
    cases he
    have hgn : g = none := by
      cases g with
      | none => rfl
      | some a => have := (V.gown a rfl).1; rw [hcond.1] at this; cases this
    subst hgn; refine wpAny_Assign_Name (wpAny_List (Calls.spliced_nil ?_)) rfl; refine ⟨Nat.zero_le _, ?_⟩; refine own_ok (D := s.heap.objs.size) hg V hx' hkd' (get_size s.heap) (fun b o e => Heap.get?_push_of_some _ e) ⟨_, _, Heap.get?_push_size _ rfl, rfl, rfl, rfl⟩ fun s₂ V₂ y₂ => ?_
    exact q.ok _ s₂ .next V₂ y₂ trivial
theorem append_ok {l : Addr} {items : Array Value} {x : Value} {Q : Value → Shared → Prop} {A : Around} (hl : OwnIs s.heap l items)
    (hQ : ∀ h', OwnIs h' l (items.push x) → Heap.SameBut l s.heap h' → Q .none { s with heap := h' }) (hsz : items.size ≤ sizeLine) :
    wpAny (model pw w) A (call (.builtin "list.append") [.ref l, x]) Q E s := by
  obtain ⟨o, n, ho, hc, hdd, hd⟩ := id hl; obtain ⟨n', hd'⟩ := Obj.data_mapSeq hd (·.push x); refine wpAny_call_entry slot_list_append ⟨o, ho, hc⟩ entry_list_append ?_ (args_list_append _ _); show wpAny _ _ (updateSeq l (·.push x) >>= fun _ => ret .none) _ _ s; refine wpAny_bind ?_; refine wpAny_updateSeq ho hd (wpAny_pure ⟨.none, rfl, hQ _ ?_ (Heap.SameBut.update ..)⟩); refine ⟨_, n', Heap.get?_update_self _ ho (Obj.isFreed_of_seq hd'), (Obj.cls_mapSeq ..).trans hc, ?_, hd'⟩; rw [← hdd]; obtain ⟨c0, d0, x0, s0⟩ := o; simp only at hd; subst hd; rfl
theorem case_append (hf : Fixed w B) (hk : CallOk w B n Γ) (i : Nat) (e : CE) : SSt w B n N Γ (.append i e) := by
  intro c st σ σ' out S g s Q E hi hc he hg V q
  obtain ⟨o, nm, ap, v, p, pp, rfl, h⟩ := invS_append hi; simp only [Bool.and_eq_true, beq_iff_eq] at h; obtain ⟨⟨⟨h1, rfl⟩, h3⟩, h4⟩ := h; unfold evS at he
  split at he
  · rename_i a fl hv
    split at he
    · rename_i l hl
      split at he
      · rename_i hcond
        rw [Bool.and_eq_true, Bool.not_eq_true'] at hcond
        cases he
        have hiv : isE c (.var i) o = true := by unfold isE; exact h1
        rw [exec_Expr _ _ _ hg.inter rfl]; refine wpAny_bind (wpAny_standAt (wpAny_bind ?_)); rw [arm_eval_Call]
        have nc : notCall o = true := by unfold isVar at h1; split at h1 <;> first | rfl | cases h1
        rw [notCall_base nc]; refine wpAny_bind ((case_var (w := w) (B := B) (n := n) (Γ := Γ) i).1 c o σ (.own l) σ.fl S g s _ E hiv hc (by unfold evE; rw [hl]) hg.toGood V fun vo s₁ V₁ k₁ r₁ => ?_); refine wpAny_bind (wpAny_standAt ?_); obtain ⟨D, vs, rfl, rfl, hO, hr⟩ := r₁; obtain ⟨oD, nD, hoD, hcD, hdD, hdata⟩ := id hO; refine meth_call (n := n) (first := [.ref D]) (fv := .builtin "list.append") (one_A (soundE (w := w) (B := B) hf hk e)) (isA_one h3 (not_star h3)) (by simp) hc hg.toGood V₁ (evA_one hv) (by simp [h4]) (fun pl R hr => Calls.getMethod_list_append hoD hcD hdD hr) (fun h _ => keep_builtin _ h _) fun vals s₂ V₂ k₂ r₂ => ?_
        obtain ⟨val, r', rfl, ra, r₃⟩ := repsV_cons r₂; rw [repsV_nil r₃]
        have hO₂ : OwnIs s₂.heap D vs := by
          obtain ⟨g1, g2, g3, g4, g5, _⟩ := V₁.gown D rfl; obtain ⟨sl, e'⟩ := k₂.slots D oD hoD g3; exact ⟨_, nD, e', hcD, hdD, hdata⟩
        have hsz : vs.size ≤ sizeLine := by
          have h1 := hr.len
          have h2 : small l.length = true := hcond.1
          unfold small at h2; simp at h2; simp at h1
          have : (100000 : Nat) ≤ sizeLine := by decide
          omega
        refine append_ok hO₂ (fun h' hO' hs => ?_) hsz
        have V₃ : Inv w B S (some D) ⟨σ.loc.set i (some (.own (l ++ [a]))), fl⟩ { s₂ with heap := h' } := by
          obtain ⟨g1, g2, g3, g4, g5, _⟩ := V₂.gown D rfl
          have kk : ∀ b o, b ≠ D → s₂.heap.get? b = some o → h'.get? b = some o := fun b o hb e => hs.extBut b o hb e
          have hlt : i < σ.loc.length := (List.getElem?_eq_some_iff.mp hl).1
          have F : Free B S.fr S.inst D := by
            refine ⟨g5, g4, fun x dx hI => ⟨?_, ?_⟩⟩
            · rintro rfl
              have := (V₂.inst D dx hI).obj
              obtain ⟨o2, n2, ho2, hc2, _⟩ := hO₂; rw [ho2] at this; cases this; cases hc2
            · rintro rfl
              exact g3 (by rw [hI]; exact .head _)
          refine { toHInv := V₂.toHInv.but F kk, loc := ?_, vars := fun j u hu => ?_, dr := fun j u hu => ?_, len := by rw [List.length_set]; exact V₂.len, ld := V₂.ld, gown := fun b e => ?_, gens := V₂.gens, os := V₂.os }
          · obtain ⟨m, hm⟩ := V₂.loc; exact ⟨m, hm.sameBut hs g2.symm⟩
          · have rdk : ∀ {y : Str} {z : Value}, ReadsVar S.env s₂.heap y z → ReadsVar S.env h' y z := by
              intro y z e2
              rcases e2 with ⟨k1, m1, hn1, hm1⟩ | ⟨k1, c, hc, o, hoc, hdc⟩
              · exact .inl ⟨k1, m1, hn1.sameBut hs g2.symm, hm1⟩
              · refine .inr ⟨k1, c, hc, o, kk c o ?_ hoc, hdc⟩
                rintro rfl
                obtain ⟨o2, n2, ho2, hc2, hd2, hdat⟩ := hO₂; rw [ho2] at hoc; cases hoc; rw [hdat] at hdc; cases hdc
            by_cases hj : j = i
            · subst hj
              have : u = .own (l ++ [a]) := by
                rw [List.getElem?_set_self hlt] at hu; cases hu; rfl
              subst this; obtain ⟨y, z, e1, e2, e3⟩ := V₂.vars j _ hl; obtain ⟨D', vs', rfl, hD', hO3, hr3⟩ := e3
              cases hD'
              have hvs : vs' = vs := by
                obtain ⟨o2, n2, ho2, hc2, hd2, hdat2⟩ := hO₂; obtain ⟨o3, n3, ho3, hc3, hd3, hdat3⟩ := hO3; rw [ho2] at ho3; cases ho3; rw [hdat2] at hdat3; cases hdat3; rfl
              subst hvs; refine ⟨y, _, e1, rdk e2, D, _, rfl, rfl, hO', ?_⟩; rw [Array.toList_push]; exact hr3.append (.cons ra .nil)
            · rw [List.getElem?_set_ne (Ne.symm hj)] at hu
              obtain ⟨y, z, e1, e2, e3⟩ := V₂.vars j u hu; refine ⟨y, z, e1, rdk e2, ?_⟩
              have hno : u.isOwn = false := by
                have h5 := hcond.2
                unfold hasOwn at h5; rw [List.any_eq_false] at h5
                have := h5 (some u) (List.mem_of_getElem? (i := j) (by
                  show (σ.loc.set i none)[j]? = _
                  rw [List.getElem?_set_ne (Ne.symm hj)]; exact hu))
                simpa using this
              have hdr := V₂.dr j u hu
              cases u with
              | «at» a => exact e3
              | list l => obtain ⟨b, ws, e, hne, ⟨o, ho, hc, m, hd⟩, q⟩ := e3; exact ⟨b, ws, e, hne, ⟨o, kk b o (fun z => hne (by rw [z])) ho, hc, m, hd⟩, q⟩
              | tup l => obtain ⟨b, ws, e, hne, ⟨o, m, ho, hc, hd⟩, q⟩ := e3; exact ⟨b, ws, e, hne, ⟨o, m, kk b o (fun z => hne (by rw [z])) ho, hc, hd⟩, q⟩
              | own l => cases hno
              | dict l => cases hdr
              | rng lo hi st => cases hdr
          · by_cases hj : j = i
            · subst hj
              rw [List.getElem?_set_self hlt] at hu; cases hu; rfl
            · rw [List.getElem?_set_ne (Ne.symm hj)] at hu; exact V₂.dr j u hu
          · cases e
            refine ⟨?_, g2, g3, g4, g5, _, hO'⟩; unfold hasOwn; rw [List.any_eq_true]; exact ⟨_, List.mem_of_getElem? (List.getElem?_set_self hlt), rfl⟩
        refine drop_ok (q.ok (some D) _ .next V₃ ((stp_kp (fl := fl) V₂ (k₁.trans k₂)).trans ⟨⟨fun b o e hd _ => ?_, fun b o e hd => ⟨o.slots, ?_⟩⟩, .inl rfl, fun b o e => ?_⟩) trivial)
        · exact hs.extBut b o (fun z => hd (by rw [z]; simp [dS])) e
        · exact hs.extBut b o (fun z => hd (by rw [z]; simp [dS])) e
        · by_cases hb : b = D
          · subst hb; obtain ⟨o', _, ho', _⟩ := hO'; exact ⟨o', ho'⟩
          · exact ⟨o, hs.extBut b o hb e⟩
      · cases he
    · cases he
  · cases he
end
end Mine
namespace Mine
section
variable {w : World} {B : Heap} {n N : Nat} {Γ : Call} {S : Sit} {g : Option Addr} {σ : AS} {s : Shared} {E : Value → Shared → Prop}
theorem okSet_set {i j : Nat} {a : Atom} {fl : FL} (h : okSet j σ = true) : okSet j ⟨σ.loc.set i (some (.at a)), fl⟩ = true := by
  unfold okSet at h ⊢; simp only
  by_cases hij : i = j
  · subst hij
    cases hlt : σ.loc[i]? with
    | none => rw [hlt] at h; cases h
    | some z =>
      rw [List.getElem?_set_self (List.getElem?_eq_some_iff.mp hlt).1]
  · rw [List.getElem?_set_ne hij]; exact h
theorem case_assign2 (hf : Fixed w B) (hk : CallOk w B n Γ) (i j : Nat) (e : CE) : SSt w B n N Γ (.assign2 i j e) := by
  intro c st σ σ' out S g s Q E hi hc he hg V q
  obtain ⟨a, b, u1, u2, v, u3, rfl, h⟩ := invS_assign2 hi; simp only [Bool.and_eq_true, Bool.not_eq_true'] at h; obtain ⟨⟨⟨⟨h1, h2⟩, h3⟩, h4⟩, h5⟩ := h; obtain ⟨x, px, rfl, hx, hkx⟩ := isLoc_name h1; obtain ⟨y, py, rfl, hy, hky⟩ := isLoc_name h2
  have hx' : S.names[i]? = some x := by rw [hc.1]; exact hx
  have hkx' : S.env.kindOf x = some .local := by unfold Env.kindOf; rw [hc.2]; exact hkx
  have hy' : S.names[j]? = some y := by rw [hc.1]; exact hy
  have hky' : S.env.kindOf y = some .local := by unfold Env.kindOf; rw [hc.2]; exact hky
  unfold evS at he
  split at he
  · rename_i va vb fl hv
    split at he
    · rename_i hok
      rw [Bool.and_eq_true] at hok
      cases he
      cases v <;> first | (cases h5; done) | skip
      refine Assign_Tuple ((soundE (w := w) (B := B) hf hk e).1 c _ σ _ fl S g s _ E h3 hc hv hg.toGood V fun val s₁ V₁ k₁ r₁ => ?_); obtain ⟨t, vs, rfl, hgt, hT, hr⟩ := r₁; obtain ⟨o, m, hoT, hcT, hdT⟩ := hT; refine assign_Tuple_tuple (items := vs) hg.handled ⟨o, hoT, hcT, m, hdT⟩ ?_ rfl fun h' hs => ?_
      · have := hr.len; simp at this; rw [this]; rfl
      have kp : ∀ b o, s₁.heap.get? b = some o → h'.get? b = some o := fun b o e => hs b o (by rintro rfl; rw [get_size] at e; cases e) e
      have V₂ : Inv w B S g ⟨σ.loc, fl⟩ { s₁ with heap := h' } := V₁.keep kp
      obtain ⟨vl⟩ := vs; simp only at hr
      cases hr with
      | cons ra hr =>
        cases hr with
        | cons rb hr =>
          cases hr
          refine assignInOrder_cons (assign_Name (store_ok (v := .at va) hg V₂ hx' hkx' hok.1 ra rfl fun s₃ V₃ y₃ _ => ?_)); refine assignInOrder_cons (assign_Name (store_ok (v := .at vb) hg V₃ hy' hky' (okSet_set hok.2) rb rfl fun s₄ V₄ y₄ _ => ?_)); refine assignInOrder_nil (q.ok g s₄ .next V₄ (((stp_kp V₁ k₁).trans ⟨.of_keep kp, .inl rfl, fun b o e => ⟨o, kp b o e⟩⟩).trans (y₃.trans y₄)) trivial)
    · cases he
  · cases he
def baseX : List Value := [.type "Exception", .type "BaseException", .type "object"]
def Labs (B : Heap) : Prop := ∃ mg, B.Ns mainGlobals mg ∧ ∀ k, mg (labName k) = some (.ref (labA k)) ∧
  ∃ N nm qn bs hdct sn sub ab col dd k0 k1 k2 k3 k5 mN, B.get? (labA k) = some (excClassObj nm qn (labA k) N bs baseX hdct sn sub ab col dd k0 k1 k2 k3 k5 "Exception.__new__") ∧ B.Ns N mN ∧ mN "__init__" = none
theorem labDebug (k : Nat) : (labName k == ("__debug__" : Str)) = false := by
  unfold labName; split <;> decide +kernel
theorem exc_other {M : Model} {A : Around} {h : Heap} {g : Array GenState} {d : Drawn} {t : Nat} {os : OsState} {e : Addr} {oe : Obj} {Q : Bool → Shared → Prop}
    {nm qn : Str} {C N : Addr} {bs bm : List Value} {hdct : Bool} {sn : List Str} {sub : List Value} {ab : Bool} {col : Option Bool} {dd : Option Addr} {k0 k1 k2 k3 k5 : Option Value} {newId : String}
    {nm' qn' : Str} {K N' : Addr} {bs' bm' : List Value} {hdct' : Bool} {sn' : List Str} {sub' : List Value} {ab' : Bool} {col' : Option Bool} {dd' : Option Addr} {l0 l1 l2 l3 l5 : Option Value} {newId' : String}
    (hC : h.get? C = some (excClassObj nm qn C N bs bm hdct sn sub ab col dd k0 k1 k2 k3 k5 newId))
    (hK : h.get? K = some (excClassObj nm' qn' K N' bs' bm' hdct' sn' sub' ab' col' dd' l0 l1 l2 l3 l5 newId')) (he : h.get? e = some oe) (hcls : oe.cls = .ref C)
    (hbase : bm'.contains (.type "BaseException") = true) (hno : (Value.ref C :: bm).contains (.ref K) = false)
    (hq : Q false ⟨h, g, d, t, os⟩) : wpAny M A (excMatches (.ref e) (.ref K)) Q E ⟨h, g, d, t, os⟩ := by
  have hcB : (Value.ref K :: bm').contains (.type "BaseException") = true := by rw [List.contains_cons, hbase, Bool.or_true]
  have f := tc_notTuple
  unfold excMatches
  repeat (first | (with_reducible refine wpAny_loadPart_at he ?_; rw [hcls]) | with_reducible refine wpAny_loadPart_at hK ?_ | (with_reducible refine wpAny_isSubtype_exc hK ?_; rw [hcB]) | (with_reducible refine wpAny_isSubtype_exc hC ?_; rw [hno]) | wp_step)
  exact hq
theorem case_raise (hf : Fixed w B) (hlab : Labs B) (k : Nat) : SSt w B n N Γ (.raise k) := by
  intro c st σ σ' out S g s Q E hi hc he hg V q
  obtain ⟨x, u1, u2, u3, rfl, h⟩ := invS_raise hi; simp only [Bool.and_eq_true, beq_iff_eq] at h; obtain ⟨rfl, h2⟩ := h; unfold evS at he; cases he; obtain ⟨mg, hG, hl⟩ := hlab; obtain ⟨hb, N, nm, qn, bs, hdct, sn, sub, ab, col, dd, k0, k1, k2, k3, k5, mN, hC, hN, hni⟩ := hl k; refine wpAny_Raise_call_subT (C := labA k) (nm := nm) (q := qn) (N := N) (bs := bs) (bm := baseX) (hdct := hdct) (sn := sn) (sub := sub) (ab := ab) (col := col) (dd := dd) (k0 := k0) (k1 := k1) (k2 := k2) (k3 := k3) (k5 := k5)
    PySem.F.excBase_Exception (mN := mN) (by decide +kernel) hg.handled rfl hni ?_
  refine Calls.Name_function_global hg.kind (by unfold Env.kindOf; rw [hc.2]; exact h2) (Calls.loadGlobal_global (mg := mg) (by rw [hg.globals]; exact hG.keeps V.stays) hb ?_) (labDebug k); refine ⟨rfl, evalArgs_empty ⟨rfl, Nat.zero_le _, V.stays _ _ hC, hN.keeps V.stays, .base, fun h' e hm => ?_⟩⟩; exact q.exc k rfl g s.heap e { s with heap := h' } V (.refl ..) (.inl hm)
theorem case_try (hf : Fixed w B) (hlab : Labs B) (k : Nat) {b : CB} (hb : SBt w B n N Γ b) : SSt w B n N Γ (.try k b) := by
  intro c st σ σ' out S g s Q E hi hc he hg V q
  obtain ⟨y, x, u1, u2, u3, u4, rfl, h⟩ := invS_try hi; simp only [Bool.and_eq_true, beq_iff_eq] at h; obtain ⟨⟨rfl, h2⟩, h3⟩ := h; unfold evS at he; obtain ⟨outer, houter⟩ := hg.outer; obtain ⟨mg, hG, hl⟩ := hlab
  cases hbd : evB tabs Γ N b σ with
  | none => simp only [hbd] at he; cases he
  | some pr =>
    obtain ⟨σ₁, o₁⟩ := pr; simp only [hbd] at he; refine wpAny_Try_except (hb c y σ σ₁ o₁ S g s _ _ h3 hc hbd hg V ⟨fun g' s' f V' y' o' => ?_, fun j hj g' h0 e s' V' y' z' => ?_⟩)
    · cases o₁ with
      | next => cases he; cases f <;> first | (cases o'; done) | exact wpAny_execs_nil (q.ok g' s' .next V' y' trivial)
      | brk => cases he; cases f <;> first | (cases o'; done) | exact q.ok g' s' _ V' y' o'
      | cont => cases he; cases f <;> first | (cases o'; done) | exact q.ok g' s' _ V' y' o'
      | ret v => cases he; cases f <;> first | (cases o'; done) | exact q.ok g' s' _ V' y' o'
      | exc k => cases f <;> cases o'
    · subst hj
      refine note_ok houter hg.stack hg.frame V'.toHInv z' fun h1 hh => ?_
      refine land_ok (s := { s' with heap := h1 }) hh fun h2' hh2 => ?_
      have V₃ : ∀ {h'' : Heap}, Fly S j e h0 h'' → Inv w B S g' σ₁ { s' with heap := h'' } := fun {h''} x => by
        obtain ⟨a0, ⟨f1, _⟩, up⟩ := x; exact Inv.kp0 (s' := { s' with heap := h'' }) V' (kp_of_base V'.toHInv f1 up) V'.gens V'.os
      have Y₃ : ∀ {h'' : Heap}, Fly S j e h0 h'' → Stp S g' g' h0 h'' := fun {h''} x => by
        obtain ⟨a0, ⟨f1, _⟩, up⟩ := x
        have K := kp_of_base V'.toHInv f1 up
        exact ⟨K.mono (fun _ hh => by cases hh), .inl rfl, fun b o e => (K.slots b o e (by simp)).elim fun sl e' => ⟨_, e'⟩⟩
      refine wpAny_handleBy_cons (codeAny_handlers_test ?_) (by intro q; cases q); obtain ⟨hbk, Nk, nm, qn, bs, hdct, sn, sub, ab, col, dd, k0, k1, k2, k3, k5, mN, hC, hN, hni⟩ := hl k; refine Calls.Name_function_global hg.kind (by unfold Env.kindOf; rw [hc.2]; exact h2) (Calls.loadGlobal_global (mg := mg) (by rw [hg.globals]; exact hG.keeps (V₃ hh2).stays) hbk ?_) (labDebug k); obtain ⟨oe, heo, hce⟩ : ∃ oe, h2'.get? e = some oe ∧ oe.cls = .ref (labA j) := by
        obtain ⟨a0, ⟨_, _, _, f4⟩, up⟩ := hh2; obtain ⟨oe, vs, T, oT, ts, he, hcls, _⟩ := f4.at; exact ⟨oe, he, hcls.1⟩
      by_cases hjk : labA j = labA k
      · simp only [if_pos hjk] at he
        cases he
        refine wpAny_excMatches_sub_self ((V₃ hh2).stays _ _ hC) heo (hjk ▸ hce) (by decide +kernel) ?_; refine codeAny_handlers_suite (land_again (s := { s' with heap := h2' }) hh2 fun h3' hh3 => ?_); refine wpAny_execs_cons (wpAny_Pass (wpAny_execs_nil ?_)); exact q.ok g' _ .next (V₃ hh3) (y'.trans (Y₃ hh3)) trivial
      · simp only [if_neg hjk] at he
        cases he
        obtain ⟨hbj, Nj, nm', qn', bs', hdct', sn', sub', ab', col', dd', k0', k1', k2', k3', k5', mN', hC', hN', hni'⟩ := hl j; refine exc_other ((V₃ hh2).stays _ _ hC') ((V₃ hh2).stays _ _ hC) heo hce (by decide +kernel) ?_ ?_
        · rw [List.contains_cons]
          have : (Value.ref (labA k) == Value.ref (labA j)) = false := by
            rw [beq_eq_false_iff_ne]; intro q; injection q with q; exact hjk q.symm
          rw [this]; rfl
        · refine wpAny_handleBy_nil (pass_ok (s := { s' with heap := h2' }) hg.frame hh2 fun h3' hh3 => ?_)
          exact q.exc j rfl g' h0 e { s' with heap := h3' } V' y' (.inr hh3)
end
end Mine
namespace Mine
section
variable {w : World} {B : Heap} {n N : Nat} {Γ : Call}
theorem soundB (hf : Fixed w B) (hlab : Labs B) (hk : CallOk w B n Γ) (b : CB) : SBt w B n N Γ b :=
  CB.rec (motive_1 := fun s => SSt w B n N Γ s) (motive_2 := fun b => SBt w B n N Γ b)
    (fun i e => case_assign hf hk i e) (fun i j e => case_assign2 hf hk i j e) (fun i e => case_setf hf hk i e) (fun i o e => case_augf hf hk i o e) (fun i o e => case_aug hf hk i o e)
    (fun e => case_expr hf hk e) (fun i e => case_append hf hk i e) (fun i => case_newOwn i) (fun t _ _ h1 h2 => case_ifs hf hk t h1 h2) (fun t _ h => case_while hf hk t h) (fun i e _ h => case_for hf hk i e h)
    (fun k _ h => case_try hf hlab k h) (fun k => case_raise hf hlab k) (fun e => case_ret hf hk e) case_pass case_brk case_cont (fun e => case_assert hf hk e)
    block_nil (fun _ _ h1 h2 => block_cons h1 h2) b
end
end Mine
namespace Mine
theorem lookup_zip : ∀ {ns : List Str} {vals : List Value} {i : Nat} {x : Str}, ns.length = vals.length → ns[i]? = some x → ((ns.zip vals).lookup x).isSome = true
  | [], _, i, x, _, e => by simp at e
  | a :: ns, [], i, x, h, _ => by simp at h
  | a :: ns, b :: vals, i, x, h, e => by
    rw [List.zip_cons_cons, List.lookup_cons]
    cases hxa : x == a with
    | true => rfl
    | false => cases i with
      | zero => simp at e; subst e; simp at hxa
      | succ i => exact lookup_zip (by simpa using h) (by simpa using e)
theorem fm_congr {α β : Type} {f g : α → Option β} : ∀ {l : List α}, (∀ x ∈ l, f x = g x) → l.filterMap f = l.filterMap g
  | [], _ => rfl
  | a :: l, h => by rw [List.filterMap_cons, List.filterMap_cons, h a (.head _), fm_congr fun x hx => h x (.tail _ hx)]
theorem filterMap_zip : ∀ {ns : List Str} {vals : List Value}, ns.Nodup → ns.length = vals.length → ns.filterMap (fun n => ((ns.zip vals).lookup n).map (n, ·)) = ns.zip vals
  | [], _, _, _ => rfl
  | a :: ns, [], _, h => by simp at h
  | a :: ns, b :: vals, hn, h => by
    rw [List.nodup_cons] at hn; rw [List.zip_cons_cons, List.filterMap_cons]; simp only [List.lookup_cons, beq_self_eq_true, Option.map_some]
    congr 1
    refine Eq.trans ?_ (filterMap_zip hn.2 (by simpa using h)); refine fm_congr fun x hx => ?_
    have : (x == a) = false := by
      rw [beq_eq_false_iff_ne]; rintro rfl; exact hn.1 hx
    simp [this]
theorem bind_ok {fd : FuncData} {vals : List Value} {ns : List Str} (h1 : fd.params.args.map (·.arg) = ns) (h2 : fd.params.posonlyargs = []) (h3 : fd.params.kwonlyargs = []) (h4 : fd.params.vararg = none) (h5 : fd.params.kwarg = none)
    (h6 : fd.defaults = .none) (hn : ns.Nodup) (hl : vals.length = ns.length) : bindArgs fd ⟨vals, []⟩ = pure (ns.zip vals) := by
  have hsk : (seqItems? fd.defaults) = pure none := by rw [h6]; rfl
  have hf : (ns.filter fun n => ((ns.zip vals).lookup n).isNone) = [] := by
    rw [List.filter_eq_nil_iff]
    intro x hx
    obtain ⟨i, hi⟩ := List.getElem?_of_mem hx
    have := lookup_zip hl.symm hi
    rw [Option.isSome_iff_ne_none] at this; simp [this]
  unfold bindArgs; simp only [h1, h2, h3, h4, h5, hsk, List.map_nil, List.nil_append, List.append_nil, List.forIn_nil, pure_bind, Option.getD_none, List.length_nil, List.take_length, List.drop_length]; simp [hl, hf, filterMap_zip hn hl.symm]
theorem bindL_not {kf : Str → Option NameKind} : ∀ {ns : List Str} {vals : List Value} {m : Str → Option Value} {x : Str}, x ∉ ns → bindL kf (ns.zip vals) m x = m x
  | [], _, _, _, _ => rfl
  | _ :: _, [], _, _, _ => rfl
  | a :: ns, b :: vals, m, x, h => by
    rw [List.mem_cons, not_or] at h; rw [List.zip_cons_cons, bindL, bindL_not h.2]
    split
    · simp [h.1]
    · rfl
theorem bindL_get {kf : Str → Option NameKind} : ∀ {ns : List Str} {vals : List Value} {m : Str → Option Value} {i : Nat} {x : Str} {v : Value}, ns.Nodup → ns[i]? = some x → vals[i]? = some v → kf x = some .local → bindL kf (ns.zip vals) m x = some v
  | [], _, _, i, _, _, _, e, _, _ => by simp at e
  | _ :: _, [], _, i, _, _, _, _, e, _ => by simp at e
  | a :: ns, b :: vals, m, i, x, v, hn, e1, e2, hk => by
    rw [List.nodup_cons] at hn; rw [List.zip_cons_cons, bindL]
    cases i with
    | zero =>
      simp at e1 e2; subst e1 e2; rw [bindL_not hn.1]; simp [hk]
    | succ i => exact bindL_get hn.2 (by simpa using e1) (by simpa using e2) hk
theorem bindC_not {kf : Str → Option NameKind} : ∀ {ns : List Str} {vals : List Value} {m : Str → Option Value} {x : Str}, x ∉ ns → bindC kf (ns.zip vals) m x = m x
  | [], _, _, _, _ => rfl
  | _ :: _, [], _, _, _ => rfl
  | a :: ns, b :: vals, m, x, h => by
    rw [List.mem_cons, not_or] at h; rw [List.zip_cons_cons, bindC, bindC_not h.2]
    split
    · rfl
    · simp [h.1]
theorem bindC_get {kf : Str → Option NameKind} : ∀ {ns : List Str} {vals : List Value} {m : Str → Option Value} {i : Nat} {x : Str} {v : Value}, ns.Nodup → ns[i]? = some x → vals[i]? = some v → kf x = some .cell → bindC kf (ns.zip vals) m x = some v
  | [], _, _, i, _, _, _, e, _, _ => by simp at e
  | _ :: _, [], _, i, _, _, _, _, e, _ => by simp at e
  | a :: ns, b :: vals, m, i, x, v, hn, e1, e2, hk => by
    rw [List.nodup_cons] at hn; rw [List.zip_cons_cons, bindC]
    cases i with
    | zero =>
      simp at e1 e2; subst e1 e2; rw [bindC_not hn.1]; simp [hk]
    | succ i => exact bindC_get hn.2 (by simpa using e1) (by simpa using e2) hk
theorem cellsFrom_some : ∀ {l : List (Str × NameKind)} {n : Nat} {acc : List (Str × Addr)} {x : Str}, ((acc.lookup x).isSome = true ∨ (x, NameKind.cell) ∈ l) → ((cellsFrom n l acc).lookup x).isSome = true
  | [], n, acc, x, h => by
    rcases h with h | h
    · exact h
    · cases h
  | (a, k) :: r, n, acc, x, h => by
    unfold cellsFrom
    split
    · rename_i hk
      refine cellsFrom_some ?_
      rcases h with h | h
      · left
        rw [List.lookup_cons]
        split <;> simp_all
      · rw [List.mem_cons] at h
        rcases h with h | h
        · cases h; left; simp [List.lookup_cons]
        · exact .inr h
    · rename_i hk
      refine cellsFrom_some ?_
      rcases h with h | h
      · exact .inl h
      · rw [List.mem_cons] at h
        rcases h with h | h
        · cases h; exact absurd rfl hk
        · exact .inr h
def fnOk2 (K : Frag) (i : Nat) : Bool := match fnAddr[i]?, fns[i]? with
  | some a, some F => (match K.lookup a with
    | some ⟨_, _, .func fd, _⟩ => fd.defaults == .none && fd.closure.isEmpty && !fd.scope.isCoroutine && !fd.scope.isGenerator && fd.scope.kind == .function && fd.globals == mainGlobals && fd.builtins == builtinsNs &&
      (match fd.code with
      | .ref c => (match K.lookup c with
        | some ⟨_, _, .fields vs, _⟩ => (match (vs[1]? : Option Value) with
          | some (.str q _) => q == fd.qualname
          | _ => false)
        | _ => false)
      | _ => false) && (F.names.take F.np).all (fun x => fd.scope.names.lookup x == some .local || (fd.scope.names.lookup x == some .cell && fd.scope.names.contains (x, .cell)))
    | _ => false)
  | _, _ => false
theorem fnOk2_all (P : Params) : (List.range 36).all (fnOk2 (KK P)) = true := by kernel_rfl!
theorem fnOk_all (P : Params) : ∀ i, i < 36 → fnOk (KK P) i = true
  | 0, _ => fnOk_0 P | 1, _ => fnOk_1 P | 2, _ => fnOk_2 P | 3, _ => fnOk_3 P | 4, _ => fnOk_4 P | 5, _ => fnOk_5 P | 6, _ => fnOk_6 P | 7, _ => fnOk_7 P | 8, _ => fnOk_8 P
  | 9, _ => fnOk_9 P | 10, _ => fnOk_10 P | 11, _ => fnOk_11 P | 12, _ => fnOk_12 P | 13, _ => fnOk_13 P | 14, _ => fnOk_14 P | 15, _ => fnOk_15 P | 16, _ => fnOk_16 P | 17, _ => fnOk_17 P
  | 18, _ => fnOk_18 P | 19, _ => fnOk_19 P | 20, _ => fnOk_20 P | 21, _ => fnOk_21 P | 22, _ => fnOk_22 P | 23, _ => fnOk_23 P | 24, _ => fnOk_24 P | 25, _ => fnOk_25 P | 26, _ => fnOk_26 P
  | 27, _ => fnOk_27 P | 28, _ => fnOk_28 P | 29, _ => fnOk_29 P | 30, _ => fnOk_30 P | 31, _ => fnOk_31 P | 32, _ => fnOk_32 P | 33, _ => fnOk_33 P | 34, _ => fnOk_34 P | 35, _ => fnOk_35 P
  | n + 36, h => absurd h (by omega)
end Mine
namespace Mine
section
variable {w : World} {B : Heap}
structure FnIs (B : Heap) (a : Addr) (F : Fn) (fd : FuncData) (b : List Stmt) : Prop where
  obj : ∃ o, B.get? a = some o ∧ o.data = .func fd
  body : fd.body = .stmts b
  isb : isB ⟨F.names, fd.scope.names⟩ F.body b = true
  args : fd.params.args.map (·.arg) = F.names.take F.np
  pos : fd.params.posonlyargs = []
  kwo : fd.params.kwonlyargs = []
  va : fd.params.vararg = none
  kwa : fd.params.kwarg = none
  dfl : fd.defaults = .none
  np : F.np ≤ F.names.length
  nd : F.names.Nodup
  clo : fd.closure = []
  co : fd.scope.isCoroutine = false
  gen : fd.scope.isGenerator = false
  kind : fd.scope.kind = .function
  glob : fd.globals = mainGlobals
  bu : fd.builtins = builtinsNs
  code : B.CodeRec fd.code fd.qualname
  prm : ∀ x ∈ F.names.take F.np, fd.scope.names.lookup x = some .local ∨ (fd.scope.names.lookup x = some .cell ∧ (x, NameKind.cell) ∈ fd.scope.names)
theorem fn_is (hf : Fixed w B) {i : Nat} {F : Fn} (hi : i < 36) (hF : fns[i]? = some F) : ∃ fd b, FnIs B (fnAddr.getD i 0) F fd b := by
  have h1 := fnOk_all w.params i hi
  have h2 := List.all_eq_true.mp (fnOk2_all w.params) i (by simp; exact hi)
  have X := kIn hf
  unfold fnOk at h1; unfold fnOk2 at h2; rw [hF] at h1 h2
  cases ha : fnAddr[i]? with
  | none => rw [ha] at h2; cases h2
  | some a =>
    rw [ha] at h1 h2
    have ea : fnAddr.getD i 0 = a := by rw [List.getD_eq_getElem?_getD, ha]; rfl
    rw [ea]
    cases hK : (KK w.params).lookup a with
    | none => simp only [hK] at h2; cases h2
    | some o =>
      obtain ⟨c, d, dat, sl⟩ := o
      cases hq : fnIdx[i]? with
      | none => simp only [hq] at h1; cases h1
      | some nm =>
        simp only [hK, hq] at h1 h2
        cases dat <;> first | (cases h2; done) | skip
        rename_i fd
        simp only [Bool.and_eq_true, beq_iff_eq, Bool.not_eq_true', List.isEmpty_iff, List.all_eq_true, Bool.or_eq_true, List.contains_iff_mem] at h1 h2; obtain ⟨⟨_, hp⟩, hb⟩ := h1; obtain ⟨⟨⟨⟨⟨⟨⟨⟨q1, q2⟩, q3⟩, q4⟩, q5⟩, q6⟩, q7⟩, q8⟩, q9⟩ := h2; unfold paramOk at hp; simp only [Bool.and_eq_true, beq_iff_eq, List.isEmpty_iff, Option.isNone_iff_eq_none, decide_eq_true_eq] at hp; obtain ⟨⟨⟨⟨⟨⟨⟨p1, p2⟩, p3⟩, p4⟩, p5⟩, p6⟩, p7⟩, p8⟩ := hp
        cases hbd : fd.body with
        | stmts b =>
          rw [hbd] at hb; refine ⟨fd, b, ⟨_, X _ _ hK, rfl⟩, hbd, hb, p1, p2, p3, p4, p5, q1, p7, p8, q2, q3, q4, q5, q6, q7, ?_, q9⟩
          cases hc : fd.code <;> rw [hc] at q8 <;> first | (cases q8; done) | skip
          rename_i cc
          simp only at q8
          cases hcc : (KK w.params).lookup cc with
          | none => rw [hcc] at q8; cases q8
          | some oc =>
            obtain ⟨c1, d1, dat1, sl1⟩ := oc; rw [hcc] at q8
            cases dat1 <;> first | (cases q8; done) | skip
            rename_i vs
            simp only at q8
            split at q8
            · rename_i q t hv
              rw [beq_iff_eq] at q8; subst q8; exact ⟨cc, _, vs, t, rfl, X _ _ hcc, rfl, hv⟩
            · cases q8
        | _ => rw [hbd] at hb; cases hb
theorem repsV_get {fr : List Env} {I : Option (Addr × Addr)} {g : Option Addr} {h : Heap} {l : List AV} {vals : List Value} (r : RepsV w fr I g h l vals) : ∀ {i : Nat} {v : AV}, l[i]? = some v → ∃ val, vals[i]? = some val ∧ Rep w fr I g h v val := by
  induction r with
  | nil => intro i v e; simp at e
  | cons a _ ih =>
    intro i v e
    cases i with
    | zero => simp at e; subst e; exact ⟨_, rfl, a⟩
    | succ i => simpa using ih (by simpa using e)
theorem repsV_len {fr : List Env} {I : Option (Addr × Addr)} {g : Option Addr} {h : Heap} {l : List AV} {vals : List Value} (r : RepsV w fr I g h l vals) : vals.length = l.length := by
  induction r with
  | nil => rfl
  | cons _ _ ih => simp [ih]
theorem Rep.over {fr fr' : List Env} {I : Option (Addr × Addr)} {g : Option Addr} {h : Heap} {v : AV} {val : Value} (r : Rep w fr I g h v val) (hv : v.isSt = true) : Rep w fr' I none h v val := by
  cases v with
  | «at» a => exact r
  | list l => obtain ⟨a, vs, e, n, x⟩ := r; exact ⟨a, vs, e, (fun q => by cases q), x⟩
  | tup l => obtain ⟨a, vs, e, n, x⟩ := r; exact ⟨a, vs, e, (fun q => by cases q), x⟩
  | own l => cases hv
  | dict l => cases hv
  | rng lo hi st => cases hv
theorem Rep.back {fr : List Env} {env : Env} {I : Option (Addr × Addr)} {g : Option Addr} {h : Heap} {v : AV} {val : Value} (r : Rep w (env :: fr) I g h v val) (hv : v.isOwn = false) : Rep w fr I none h v val := by
  have ap : ∀ {a : Addr}, Apart (env :: fr) I a → Apart fr I a := fun {a} ⟨x, y⟩ => ⟨fun m => x (by
    rw [List.filterMap_cons]
    split
    · exact m
    · exact .tail _ m), y⟩
  cases v with
  | «at» a => exact r
  | list l => obtain ⟨a, vs, e, n, x⟩ := r; exact ⟨a, vs, e, (fun q => by cases q), x⟩
  | tup l => obtain ⟨a, vs, e, n, x⟩ := r; exact ⟨a, vs, e, (fun q => by cases q), x⟩
  | own l => cases hv
  | dict l => obtain ⟨a, e, n, z, x⟩ := r; exact ⟨a, e, (fun q => by cases q), ap z, x⟩
  | rng lo hi st => obtain ⟨a, e, n, z, x⟩ := r; exact ⟨a, e, (fun q => by cases q), ap z, x⟩
theorem hinv_back {env : Env} {fr : List Env} {I : Option (Addr × Addr)} {fl : FL} {h : Heap} (H : HInv B (env :: fr) I fl h) : HInv B fr I fl h := by
  have sub : ∀ b, b ∈ frA fr → b ∈ frA (env :: fr) := fun b m => by
    unfold frA; rw [List.filterMap_cons]
    split
    · exact m
    · exact .tail _ m
  exact ⟨H.stays, H.frs.2.2, fun x dx q => let ⟨a, b, c, d, e, f, i, j, k⟩ := H.inst x dx q; ⟨a, b, c, d, e, fun m => f (sub _ m), fun m => i (sub _ m), j, k⟩⟩
def CallOkC (w : World) (B : Heap) (n : Nat) (Γ : Call) : Prop :=
  ∀ (f : Nat) (vs : List AV) (fl : FL) (v : AV) (fl' : FL), Γ f vs fl = some (v, fl') → ∀ (S : Sit) (s : Shared) (vals : List Value) (Q : Value → Shared → Prop) (E : Value → Shared → Prop), Good n B S → HInv B S.fr S.inst fl s.heap → s.gens = #[] → s.os = S.os →
    vs.all AV.isSt = true → RepsV w S.fr S.inst none s.heap vs vals →
    (∀ val s', HInv B S.fr S.inst fl' s'.heap → Kp S.fr (dl S.inst) s.heap s'.heap → s'.gens = #[] → s'.os = S.os → Rep w S.fr S.inst none s'.heap v val → Q val s') →
    codeAny (model pw w) S.A (.call (.ref (fnAddr.getD f 0)) ⟨vals, []⟩) (fun r s' => match r with | .ok (.ret v) => Q v s' | .ok _ => False | .error e => E e s') s
theorem callC_succ {n N : Nat} (hf : Fixed w B) (hlab : Labs B) (hk : CallOk w B n (callN tabs fns N n)) : CallOkC w B (n + 1) (callN tabs fns N (n + 1)) := by
  intro f vs fl v fl' he S s vals Q E hg H hgens hos hst hr q
  unfold callN at he
  split at he
  · rename_i F hF
    split at he
    · rename_i hlen
      have hf36 : f < 36 := by
        have := (List.getElem?_eq_some_iff.mp hF).1
        exact this
      obtain ⟨fd, b, X⟩ := fn_is hf hf36 hF; obtain ⟨o, ho, hd⟩ := X.obj
      have hvl : vals.length = F.np := (repsV_len hr).trans hlen
      have htk : (F.names.take F.np).length = F.np := by rw [List.length_take]; exact Nat.min_eq_left X.np
      have htn : (F.names.take F.np).Nodup := X.nd.sublist (List.take_sublist _ _)
      have hbind := bind_ok (vals := vals) X.args X.pos X.kwo X.va X.kwa X.dfl htn (hvl.trans htk.symm)
      have hroom : S.A.depth < recursionLimit := by have := hg.depth; omega
      refine codeAny_call_cells hroom (H.stays _ _ ho) hd (hf.lim.keeps H.stays) (by
        obtain ⟨c, oc, vs', t, e1, e2, e3⟩ := X.code; exact ⟨c, oc, vs', t, e1, H.stays _ _ e2, e3⟩) X.body hbind X.clo (fun x hx => ?_) (fun s₁ C => ?_) X.co X.gen X.kind
      · have hx1 : x.1 ∈ F.names.take F.np := (List.of_mem_zip (a := x.1) (b := x.2) hx).1
        rcases X.prm _ hx1 with h | ⟨h, hm⟩
        · exact .inl h
        · exact .inr ⟨h, cellsFrom_some (.inr hm)⟩
      obtain ⟨h₁, tk, rfl⟩ := C.toInCall.same
      have hkeep : ∀ b o, s.heap.get? b = some o → h₁.get? b = some o := C.toInCall.keep
      have hL0 : s.heap.get? (callEnvC fd s.heap.objs.size (fnAddr.getD f 0)).locals = none := get_size _
      let env := callEnvC fd s.heap.objs.size (fnAddr.getD f 0)
      have hframe : env.frame = some env.locals := rfl
      let S' : Sit := ⟨S.A.deeper env, env, env :: S.fr, F.names, S.inst, S.os⟩
      have hFL : Free B S.fr S.inst env.locals := .of H hL0
      have G : GoodS n B S' := {
        stack := by show S.A.frames.map (env :: ·) = _; rw [hg.stack]; rfl
        handled := hg.handled
        depth := by have := hg.depth; show S.A.depth + 1 + n + 10 ≤ _; omega
        units := by have := hg.units; show S.A.units + 3 + 4 * n + 200 ≤ _; omega
        kind := X.kind
        globals := X.glob
        builtins := X.bu
        nodup := X.nd
        newL := hFL.b
        outer := ⟨S.fr, rfl⟩
        frame := hframe }
      have H₁ : HInv B (env :: S.fr) S.inst fl h₁ := by
        have H0 := H.keep hkeep
        obtain ⟨oL, es, ep, hoL, hdL, _⟩ := C.toInCall.ns; refine ⟨H0.stays, ⟨by show fd.scope.kind ≠ _; rw [X.kind]; decide, ⟨env.locals, oL, hframe, hFL.b, hoL, fun vs q => by rw [hdL] at q; cases q⟩, H0.frs⟩, fun x dx q => ?_⟩; obtain ⟨a, b, c, d, e, f', i, j, k⟩ := H0.inst x dx q
        have hm : ∀ z, z ∈ frA (env :: S.fr) → z = env.locals ∨ z ∈ frA S.fr := fun z hz => by
          unfold frA at hz; rw [List.filterMap_cons, hframe] at hz; exact List.mem_cons.mp hz
        exact ⟨a, b, c, d, e, fun m => (hm _ m).elim (fun z => (hFL.i x dx q).1 z.symm) f', fun m => (hm _ m).elim (fun z => (hFL.i x dx q).2 z.symm) i, j, k⟩
      have V : Inv w B S' none ⟨vs.map some ++ List.replicate (F.names.length - F.np) none, fl⟩ { s with heap := h₁, toks := tk } := {
        toHInv := H₁
        loc := ⟨_, C.toInCall.ns⟩
        vars := fun i u hu => by
          have hi : vs[i]? = some u := by
            rw [List.getElem?_append] at hu
            split at hu
            · rw [List.getElem?_map] at hu
              obtain ⟨z, hz, e⟩ := Option.map_eq_some_iff.mp hu
              cases e; exact hz
            · obtain ⟨_, e⟩ := List.getElem?_eq_some_iff.mp hu
              rw [List.getElem_replicate] at e; cases e
          obtain ⟨val, hv1, hv2⟩ := repsV_get hr hi
          have hin : i < F.np := by rw [← hlen]; exact (List.getElem?_eq_some_iff.mp hi).1
          have hx : F.names[i]? = some (F.names[i]'(Nat.lt_of_lt_of_le hin X.np)) := List.getElem?_eq_getElem _
          have hx' : (F.names.take F.np)[i]? = some (F.names[i]'(Nat.lt_of_lt_of_le hin X.np)) := by rw [List.getElem?_take_of_lt hin]; exact hx
          refine ⟨_, val, hx, ?_, (hv2.kp H (.of_keep hkeep)).over (List.all_eq_true.mp hst u (List.mem_of_getElem? hi))⟩
          · rcases X.prm _ (List.mem_of_getElem? hx') with h | ⟨h, hm⟩
            · exact .inl ⟨h, _, C.toInCall.ns, bindL_get htn hx' hv1 h⟩
            · obtain ⟨c, hc⟩ := Option.isSome_iff_exists.mp (cellsFrom_some (n := s.heap.objs.size + 1) (acc := []) (.inr hm))
              obtain ⟨oc, hoc, hdc⟩ := C.cell _ c hc; refine .inr ⟨h, c, hc, oc, hoc, ?_⟩; rw [hdc, bindC_get htn hx' hv1 h]
        dr := fun i u hu => by
          have hi : vs[i]? = some u := by
            rw [List.getElem?_append] at hu
            split at hu
            · rw [List.getElem?_map] at hu
              obtain ⟨z, hz, e⟩ := Option.map_eq_some_iff.mp hu
              cases e; exact hz
            · obtain ⟨_, e⟩ := List.getElem?_eq_some_iff.mp hu
              rw [List.getElem_replicate] at e; cases e
          exact isSt_dr (List.all_eq_true.mp hst u (List.mem_of_getElem? hi))
        len := by
          show (vs.map some ++ List.replicate (F.names.length - F.np) none).length = F.names.length
          rw [List.length_append, List.length_map, List.length_replicate, hlen]; have := X.np; omega
        ld := hFL.dl
        gown := fun a e => by cases e
        gens := hgens
        os := hos }
      cases hbd : evB tabs (callN tabs fns N n) N F.body ⟨vs.map some ++ List.replicate (F.names.length - F.np) none, fl⟩ with
      | none => rw [hbd] at he; cases he
      | some pr =>
        obtain ⟨σ', out⟩ := pr; rw [hbd] at he
        have done : ∀ g' s' val u, Inv w B S' g' σ' s' → Stp S' none g' h₁ s'.heap → Rep w S'.fr S'.inst g' s'.heap u val → u.isOwn = false → v = u → fl' = σ'.fl → Q val s' := by
          rintro g' s' val u V' y' r' hu rfl rfl
          refine q val s' (hinv_back V'.toHInv) ⟨fun b o e hd hfr => ?_, fun b o e hd => ?_⟩ V'.gens V'.os (r'.back hu)
          · have hbL : b ≠ env.locals := by rintro rfl; rw [hL0] at e; cases e
            refine y'.kp.exact b o (hkeep b o e) ?_ ?_
            · show b ∉ env.locals :: (([] : List Addr) ++ dl S.inst)
              simp [hbL, hd]
            · show b ∉ frA (env :: S.fr)
              unfold frA; rw [List.filterMap_cons, hframe]; simp only [List.mem_cons, not_or]; exact ⟨hbL, hfr⟩
          · have hbL : b ≠ env.locals := by rintro rfl; rw [hL0] at e; cases e
            refine y'.kp.slots b o (hkeep b o e) ?_; show b ∉ env.locals :: (([] : List Addr) ++ dl S.inst); simp [hbL, hd]
        refine soundB hf hlab hk F.body ⟨F.names, fd.scope.names⟩ b _ σ' out S' none _ _ _ X.isb ⟨rfl, rfl⟩ hbd G V ⟨fun g' s' fw V' y' o' => ?_, fun k hk => ?_⟩
        · cases out with
          | next =>
            cases he
            cases fw <;> first | (cases o'; done) | skip
            exact done g' s' .none (.at (.cst .none)) V' y' rfl rfl rfl rfl
          | ret u =>
            cases he
            cases fw <;> first | (cases o'; done) | skip
            exact done g' s' _ _ V' y' o'.1 o'.2 rfl rfl
          | brk => cases he
          | cont => cases he
          | exc k => cases he
        · subst hk; cases he
    · cases he
  · cases he
theorem callOk_succ {n N : Nat} (hf : Fixed w B) (hlab : Labs B) (hk : CallOk w B n (callN tabs fns N n)) : CallOk w B (n + 1) (callN tabs fns N (n + 1)) :=
  fun f vs fl v fl' he S s vals Q E hg H hgens hos hst hr q => wpAny_call (callC_succ hf hlab hk f vs fl v fl' he S s vals Q E hg H hgens hos hst hr q)
theorem callOk_zero {N : Nat} : CallOk w B 0 (callN tabs fns N 0) := by
  intro f vs fl v fl' he; cases he
theorem callOk (hf : Fixed w B) (hlab : Labs B) (N : Nat) : ∀ n, CallOk w B n (callN tabs fns N n)
  | 0 => callOk_zero
  | n + 1 => callOk_succ hf hlab (callOk hf hlab N n)
end
end Mine
namespace Mine
def YP0 (w : World) (h : Heap) : Prop := (Hfin w.params).StaysIn h
theorem e_a : (Str.ofString "a") = chr1 97 := by decide +kernel
theorem e_e : (Str.ofString "e") = chr1 101 := by decide +kernel
theorem e_i : (Str.ofString "i") = chr1 105 := by decide +kernel
theorem e_o : (Str.ofString "o") = chr1 111 := by decide +kernel
theorem e_u : (Str.ofString "u") = chr1 117 := by decide +kernel
theorem e_y : (Str.ofString "y") = chr1 121 := by decide +kernel
theorem e_g : (Str.ofString "è") = chr1 232 := by decide +kernel
theorem e_I : (Str.ofString "I") = chr1 73 := by decide +kernel
theorem e_j : (Str.ofString "j") = chr1 106 := by decide +kernel
theorem bears0 (P : Params) : Bears P (gS0 P) (fun x => [chr1 97, chr1 101, chr1 105, chr1 111, chr1 117, chr1 121, chr1 232].contains x) 7 := by
  have h := bears_unled (bears_add (.ofString "è") 491 (bears_add (.ofString "y") 490 (bears_add (.ofString "u") 489 (bears_add (.ofString "o") 488 (bears_add (.ofString "i") 487 (bears_add (.ofString "e") 486 (bears_add (.ofString "a") 485 (bears_fresh P (!P.followText "set-order")))))))))
  rw [e_a, e_e, e_i, e_o, e_u, e_y, e_g] at h; refine (congrArg (fun S => Bears P (gS0 P) S 7) (funext fun k => ?_)).mp (by unfold gS0 st0; rw [e_a, e_e, e_i, e_o, e_u, e_y, e_g]; exact h); rw [Bool.eq_iff_iff]; simp [or_assoc]
theorem bears1 (P : Params) : Bears P (gS1 P) (fun x => [chr1 73, chr1 97, chr1 101, chr1 105, chr1 111, chr1 117, chr1 121, chr1 232].contains x) 8 := by
  have h := bears_unled (bears_add (.ofString "è") 507 (bears_add (.ofString "y") 506 (bears_add (.ofString "u") 505 (bears_add (.ofString "o") 504 (bears_add (.ofString "i") 503 (bears_add (.ofString "e") 502 (bears_add (.ofString "a") 501 (bears_add (.ofString "I") 500 (bears_fresh P (!P.followText "set-order"))))))))))
  rw [e_a, e_e, e_i, e_o, e_u, e_y, e_g, e_I] at h; refine (congrArg (fun S => Bears P (gS1 P) S 8) (funext fun k => ?_)).mp (by unfold gS1 st0; rw [e_a, e_e, e_i, e_o, e_u, e_y, e_g, e_I]; exact h); rw [Bool.eq_iff_iff]; simp [or_assoc]
theorem bears2 (P : Params) : Bears P (gS2 P) (fun x => [chr1 97, chr1 101, chr1 105, chr1 106, chr1 111, chr1 117, chr1 121, chr1 232].contains x) 8 := by
  have h := bears_unled (bears_add (.ofString "è") 524 (bears_add (.ofString "y") 523 (bears_add (.ofString "u") 522 (bears_add (.ofString "o") 521 (bears_add (.ofString "j") 520 (bears_add (.ofString "i") 519 (bears_add (.ofString "e") 518 (bears_add (.ofString "a") 517 (bears_fresh P (!P.followText "set-order"))))))))))
  rw [e_a, e_e, e_i, e_o, e_u, e_y, e_g, e_j] at h; refine (congrArg (fun S => Bears P (gS2 P) S 8) (funext fun k => ?_)).mp (by unfold gS2 st0; rw [e_a, e_e, e_i, e_o, e_u, e_y, e_g, e_j]; exact h); rw [Bool.eq_iff_iff]; simp [or_assoc]
theorem at230 (P : Params) : (KK P).lookup 230 = some (gO0 P) := by kernel_rfl!
theorem at231 (P : Params) : (KK P).lookup 231 = some (gO1 P) := by kernel_rfl!
theorem at232 (P : Params) : (KK P).lookup 232 = some (gO2 P) := by kernel_rfl!
theorem sets_of {w : World} {B : Heap} (X : (KK w.params).In B) : Sets w B := by
  refine ⟨fun a l e => ?_⟩; unfold setAt at e
  split at e
  · rename_i h; subst h; cases e
    exact ⟨_, 7, X _ _ (at230 _), bears_obj (bears0 _) pw w rfl, by decide⟩
  · split at e
    · rename_i h; subst h; cases e
      exact ⟨_, 8, X _ _ (at231 _), bears_obj (bears1 _) pw w rfl, by decide⟩
    · split at e
      · rename_i h; subst h; cases e
        exact ⟨_, 8, X _ _ (at232 _), bears_obj (bears2 _) pw w rfl, by decide⟩
      · cases e
def amoOk (K : Frag) (a : Addr) : Bool := match amoList a with
  | some l => (match K.lookup a with
    | some ⟨.type "list", _, .seq vs _, _⟩ => vs.toList == l.map Value.ref
    | _ => false)
  | none => false
theorem amoOk_all (P : Params) : [336, 346, 356, 372, 391, 404].all (amoOk (KK P)) = true := by kernel_rfl!
theorem amo_addr {a : Addr} {l : List Addr} (e : amoList a = some l) : a ∈ [336, 346, 356, 372, 391, 404] := by
  unfold amoList at e
  repeat (split at e; · rename_i h; subst h; decide)
  cases e
theorem amo_of {w : World} {B : Heap} (X : (KK w.params).In B) {a : Addr} {l : List Addr} (e : amoList a = some l) : B.IsList a (l.map Value.ref).toArray := by
  have h := List.all_eq_true.mp (amoOk_all w.params) a (amo_addr e)
  unfold amoOk at h; rw [e] at h; simp only at h
  split at h
  · rename_i d vs m sl hK
    rw [beq_iff_eq] at h; refine ⟨_, X _ _ hK, rfl, m, ?_⟩; rw [← h]
  · cases h
theorem fixed_of {w : World} {B : Heap} {mg mb : Str → Option Value} (Y : YP0 w B) (hg : B.Ns mainGlobals mg) (hb : B.Ns builtinsNs mb) (hbb : ∀ x : Str, x ≠ "__name__" → mb x = bootBuiltins x) (hl : B.NoLimit) : Fixed w B :=
  have X : (KK w.params).In B := (kk_in w.params).keeps Y
  { low := Y, glob := ⟨mg, hg⟩, bu := ⟨mb, hb, hbb⟩, lim := hl, sets := sets_of X, amo := fun _ _ e => amo_of X e }
def labOk (K : Frag) (k : Nat) : Bool := nsIn K mainGlobals (labName k) == some (some (.ref (labA k))) && (match K.lookup (labA k) with
  | some ⟨.type "type", _, .cls cd, sl⟩ => (match cd.mro, sl.toList with
    | .ref C :: bm, [_, _, _, _, some (.builtin n), _] => C == labA k && n == "Exception.__new__" && !cd.hasDel && bm == baseX && nsOkIn K cd.ns && nsIn K cd.ns "__init__" == some none
    | _, _ => false)
  | _ => false)
theorem labOk_all (P : Params) : [0, 1, 2, 3].all (labOk (KK P)) = true := by kernel_rfl!
theorem labs_of {w : World} {B : Heap} {mg : Str → Option Value} (X : (KK w.params).In B) (hg : B.Ns mainGlobals mg) : Labs B := by
  have key : ∀ k, labOk (KK w.params) k = true := fun k => by
    have h := List.all_eq_true.mp (labOk_all w.params)
    match k with
    | 0 => exact h 0 (by decide)
    | 1 => exact h 1 (by decide)
    | 2 => exact h 2 (by decide)
    | n + 3 => exact h 3 (by decide)
  refine ⟨mg, hg, fun k => ?_⟩
  have h := key k
  unfold labOk at h; rw [Bool.and_eq_true, beq_iff_eq] at h; obtain ⟨h1, h⟩ := h; refine ⟨mg_of X hg h1, ?_⟩
  split at h
  · rename_i dd cd sl ho
    split at h
    · rename_i C bm k0 k1 k2 k3 n k5 hm hs
      simp only [Bool.and_eq_true, beq_iff_eq, Bool.not_eq_true'] at h; obtain ⟨⟨⟨⟨⟨rfl, rfl⟩, hdel⟩, rfl⟩, hok⟩, hni⟩ := h; obtain ⟨nm, bs, mro, ns, qn, hd, sn, sub, ab, col, del⟩ := cd
      dsimp only at hm hdel hok hni
      subst hm hdel
      have hsl : sl = #[k0, k1, k2, k3, some (.builtin "Exception.__new__"), k5] := by
        obtain ⟨l⟩ := sl; simp only at hs; rw [hs]
      subst hsl; exact ⟨ns, nm, qn, bs, hd, sn, sub, ab, col, dd, k0, k1, k2, k3, k5, _, X _ _ ho, .of_isNs (isNs_of_in X hok), nsMap_none_of_in X hok hni⟩
    · cases h
  · cases h
end Mine
namespace Mine
theorem mk1 (P : Params) : makesIn (KK P) 407 = true := by kernel_rfl!
theorem mk2 (P : Params) : findIn (KK P) (.ref 407) "__init__" = some (some (.ref 35)) := by kernel_rfl!
theorem mk3 (P : Params) : typeIn (KK P) (.ref 35) = some (.type "function") := by kernel_rfl!
theorem w_tc : (Code.builtin "type.__call__" ⟨[.ref 407], []⟩).weight = 1 := by decide +kernel
def flE : FL := List.replicate 9 none
section
variable {w : World} {B : Heap}
theorem rep_inst {fr : List Env} {p : Addr × Addr} {h : Heap} {v : AV} {val : Value} (r : Rep w fr none none h v val) (hv : v.isDR = false) : Rep w fr (some p) none h v val := by
  have ra : ∀ {a : Atom} {u : Value}, RepA none a u → RepA (some p) a u := fun {a u} r => by
    cases a with
    | me => obtain ⟨x, dx, e, _⟩ := r; cases e
    | int i => exact r
    | str x => exact r
    | cst c => exact r
  have rs : ∀ {l : List Atom} {vs : List Value}, Reps none l vs → Reps (some p) l vs := fun {l vs} r => by
    induction r with
    | nil => exact .nil
    | cons a _ ih => exact .cons (ra a) ih
  cases v with
  | «at» a => exact ra r
  | list l => obtain ⟨a, vs, e, n, x, q⟩ := r; exact ⟨a, vs, e, n, x, rs q⟩
  | tup l => obtain ⟨a, vs, e, n, x, q⟩ := r; exact ⟨a, vs, e, n, x, rs q⟩
  | own l => obtain ⟨a, vs, e, n, x, q⟩ := r; cases n
  | dict l => cases hv
  | rng lo hi st => cases hv
theorem new_ok (hf : Fixed w B) (hlab : Labs B) {n N : Nat} {S : Sit} {σ : AS} {s : Shared} {fl1 : FL} {Q : Value → Shared → Prop} {E : Value → Shared → Prop} (hg : GoodS (n + 2) B S) (hI : S.inst = none) (V : Inv w B S none σ s)
    (he : callN tabs fns N (n + 1) 0 [.at .me] flE = some (.at (.cst .none), fl1))
    (q : ∀ x dx s', Inv w B { S with inst := some (x, dx) } none ⟨σ.loc, fl1⟩ s' → Q (.ref x) s') : wpAny (model pw w) S.A (call (.ref 407) []) Q E s := by
  have X : (KK w.params).In s.heap := (kIn hf).keeps V.stays
  obtain ⟨h, gs, d, t, os⟩ := s; refine wpAny_call (make_core (makes_of X (mk1 _)) (looks_findIn X (mk2 _)) (fun self => bind_fn X self (mk3 _)) (.inl rfl) ?_)
  let x : Addr := h.objs.size + 1
  let dx : Addr := h.objs.size
  have hdx0 : h.get? dx = none := get_size h
  have hx0 : h.get? x = none := Heap.get?_none_of_le (Nat.le_succ _)
  have keep : ∀ b o, h.get? b = some o → ((h.push emptyDict).push (instObj 407 h.objs.size)).get? b = some o := fun b o e => Heap.get?_push_of_some _ (Heap.get?_push_of_some _ e)
  have H0 := V.toHInv.keep keep
  have Fx := Free.of V.toHInv hx0
  have Fd := Free.of V.toHInv hdx0
  have hobj : ((h.push emptyDict).push (instObj 407 h.objs.size)).get? x = some ⟨.ref 407, some dx, .plain, #[]⟩ := by
    have := Heap.get?_push_size (h.push emptyDict) (o := instObj 407 h.objs.size) rfl
    rw [Heap.size_push] at this; exact this
  have hns : ((h.push emptyDict).push (instObj 407 h.objs.size)).Ns1 dx fun _ => none :=
    Heap.Ns1.of_empty ((Heap.Ns.new h (.type "dict")).keeps fun b o e => Heap.get?_push_of_some _ e)
  have hdo : ((h.push emptyDict).push (instObj 407 h.objs.size)).get? dx = some emptyDict := Heap.get?_push_of_some _ (Heap.get?_push_size _ rfl)
  let A' : Around := S.A.under (.builtin "type.__call__" ⟨[.ref 407], []⟩)
  let S' : Sit := ⟨A', S.env, S.fr, S.names, some (x, dx), S.os⟩
  have G' : Good (n + 1) B S' := {
    stack := by show pushEnvs [] S.A.frames = _; exact hg.stack
    handled := hg.handled
    depth := by have := hg.depth; show S.A.depth + (Code.builtin "type.__call__" ⟨[.ref 407], []⟩).weight + (n + 1) + 10 ≤ _; rw [w_tc]; omega
    units := by have := hg.units; show S.A.units + 1 + 4 * (n + 1) + 200 ≤ _; omega
    kind := hg.kind, globals := hg.globals, builtins := hg.builtins, nodup := hg.nodup, newL := hg.newL }
  have H' : HInv B S.fr (some (x, dx)) flE ((h.push emptyDict).push (instObj 407 h.objs.size)) := by
    refine ⟨H0.stays, H0.frs, fun x' dx' e => ?_⟩
    cases e
    refine ⟨hobj, ⟨_, hns, fun _ _ => rfl, fun i nm hnm => ?_⟩, ⟨_, _, _, hdo, rfl⟩, rfl, ?_, Fx.f, Fd.f, Fx.b, Fd.b⟩
    · have hi : i < 9 := (List.getElem?_eq_some_iff.mp hnm).1
      have : flE[i]? = some none := by
        unfold flE; rw [List.getElem?_replicate]; simp [hi]
      rw [this]; rfl
    · show h.objs.size ≠ h.objs.size + 1; omega
  have R' : RepsV w S'.fr S'.inst none ((h.push emptyDict).push (instObj 407 h.objs.size)) [.at .me] [.ref x] := .cons ⟨x, dx, rfl, rfl⟩ .nil
  refine codeAny_mono (callC_succ hf hlab (callOk hf hlab N n) 0 [.at .me] flE _ fl1 he S' _ [.ref x] (fun val s' => val = .none ∧ Q (.ref x) s') E G' H' V.gens V.os rfl R' fun val s' H2 K2 hgn hos r2 => ?_) fun r s' hr => ?_
  · refine ⟨r2, q x dx s' ?_⟩
    have kL : ∀ b o, h.get? b = some o → b ∉ dl S'.inst := fun b o e m => by
      have : b = dx := by simpa [dl, S'] using m
      subst this; rw [hdx0] at e; cases e
    have slots : ∀ b o, h.get? b = some o → ∃ sl, s'.heap.get? b = some { o with slots := sl } := fun b o e => K2.slots b o (keep b o e) (kL b o e)
    exact {
      toHInv := H2
      loc := let ⟨m, hm⟩ := V.loc; ⟨m, ns_slots hm fun o e => slots _ o e⟩
      vars := fun i v e => by
        obtain ⟨y, val, e1, e2, e3⟩ := V.vars i v e
        have hdr := V.dr i v e
        rw [hI] at e3; refine ⟨y, val, e1, ?_, (rep_inst (p := (x, dx)) e3 hdr).keep3 hdr fun b o eb _ => slots b o eb⟩
        rcases e2 with ⟨k1, m1, hn1, hm1⟩ | ⟨k1, c, hc, o, hoc, hdc⟩
        · exact .inl ⟨k1, m1, ns_slots hn1 fun o e => slots _ o e, hm1⟩
        · obtain ⟨sl, e'⟩ := slots c o hoc
          exact .inr ⟨k1, c, hc, _, e', hdc⟩
      dr := V.dr
      len := V.len
      ld := fun m => by
        obtain ⟨mm, o, es, ep, ho, _⟩ := V.loc; exact kL _ o ho m
      gown := fun a e => by cases e
      gens := hgn
      os := hos }
  · cases r with
    | ok f => cases f <;> first | exact hr | exact ⟨hr.1, hr.2⟩
    | error e => exact hr
end
end Mine
namespace Mine
section
variable {w : World} {B : Heap} {n N : Nat} {Γ : Call}
theorem soundS (hf : Fixed w B) (hlab : Labs B) (hk : CallOk w B n Γ) (s : CS) : SSt w B n N Γ s :=
  CS.rec (motive_1 := fun s => SSt w B n N Γ s) (motive_2 := fun b => SBt w B n N Γ b)
    (fun i e => case_assign hf hk i e) (fun i j e => case_assign2 hf hk i j e) (fun i e => case_setf hf hk i e) (fun i o e => case_augf hf hk i o e) (fun i o e => case_aug hf hk i o e)
    (fun e => case_expr hf hk e) (fun i e => case_append hf hk i e) (fun i => case_newOwn i) (fun t _ _ h1 h2 => case_ifs hf hk t h1 h2) (fun t _ h => case_while hf hk t h) (fun i e _ h => case_for hf hk i e h)
    (fun k _ h => case_try hf hlab k h) (fun k => case_raise hf hlab k) (fun e => case_ret hf hk e) case_pass case_brk case_cont (fun e => case_assert hf hk e)
    block_nil (fun _ _ h1 h2 => block_cons h1 h2) s
theorem block_app (hf : Fixed w B) (hlab : Labs B) (hk : CallOk w B n Γ) {c : Cx} {S : Sit} {E : Value → Shared → Prop} {Q : Flow → Shared → Prop} {l₂ : List Stmt} {σ' : AS} (hc : Ctx c S) (hg : GoodS n B S) :
    ∀ (l₁ : List Stmt) (cb : CB) (σ : AS) (g : Option Addr) (s : Shared), isB c cb l₁ = true → evB tabs Γ N cb σ = some (σ', .next) → Inv w B S g σ s →
      (∀ g' s', Inv w B S g' σ' s' → Stp S g g' s.heap s'.heap → wpAny (model pw w) S.A (execs l₂ S.env) Q E s') → wpAny (model pw w) S.A (execs (l₁ ++ l₂) S.env) Q E s
  | [], .nil, σ, g, s, _, he, V, q => by unfold evB at he; cases he; exact q g s V (.refl ..)
  | [], .cons _ _, _, _, _, hi, _, _, _ => by simp [isB] at hi
  | _ :: _, .nil, _, _, _, hi, _, _, _ => by simp [isB] at hi
  | x :: xs, .cons st r, σ, g, s, hi, he, V, q => by
    simp only [isB, Bool.and_eq_true] at hi; unfold evB at he; rw [List.cons_append]; refine wpAny_execs_cons ?_
    cases hx : evS tabs Γ N st σ with
    | none => rw [hx] at he; cases he
    | some p =>
      obtain ⟨σ₁, o₁⟩ := p; rw [hx] at he; refine soundS hf hlab hk st c x σ σ₁ o₁ S g s _ _ hi.1 hc hx hg V ⟨fun g' s' f V' y o => ?_, fun k hk => ?_⟩
      · cases o₁ with
        | next =>
          cases f <;> first | (cases o; done) | skip
          exact block_app hf hlab hk hc hg xs r σ₁ g' s' hi.2 he V' fun g'' s'' V'' y' => q g'' s'' V'' (y.trans y')
        | brk => cases he
        | cont => cases he
        | ret v => cases he
        | exc k => cases he
      · subst hk; cases he
end
def lawNames : List Str := [.ofString "script", .ofString "first", .ofString "second", .ofString "third", .ofString "stemmer"]
def lawIn (l : List Int) : AS := ⟨[some (.list (l.map Atom.int)), none, none, none, none], []⟩
def LawGives (l : List Int) : Prop := ∃ (σ₁ : AS) (fl1 : FL) (σ' : AS),
  evB tabs (cl 40) 1000 c_law1 (lawIn l) = some (σ₁, .next) ∧ okSet 4 σ₁ = true ∧ hasOwn σ₁ = false ∧ cl 40 0 [.at .me] flE = some (.at (.cst .none), fl1) ∧
  evB tabs (cl 40) 1000 c_law2 ⟨σ₁.loc.set 4 (some (.at .me)), fl1⟩ = some (σ', .ret (ab true))
theorem mk4 (P : Params) : keepIn (KK P) (.ref 407) = true := by kernel_rfl!
theorem GoodS.less {n n' : Nat} {B : Heap} {S : Sit} (h : GoodS n B S) (hn : n' ≤ n) : GoodS n' B S :=
  { stack := h.stack, handled := h.handled, depth := by have := h.depth; omega, units := by have := h.units; omega, kind := h.kind, globals := h.globals, builtins := h.builtins, nodup := h.nodup, newL := h.newL, outer := h.outer, frame := h.frame }
theorem GoodS.inst {n : Nat} {B : Heap} {A : Around} {env : Env} {fr : List Env} {ns : List Str} {os : OsState} (h : GoodS n B ⟨A, env, fr, ns, none, os⟩) (I : Option (Addr × Addr)) : GoodS n B ⟨A, env, fr, ns, I, os⟩ :=
  { stack := h.stack, handled := h.handled, depth := h.depth, units := h.units, kind := h.kind, globals := h.globals, builtins := h.builtins, nodup := h.nodup, newL := h.newL, outer := h.outer, frame := h.frame }
theorem law_walk {w : World} {B : Heap} (hf : Fixed w B) (hlab : Labs B) {A : Around} {env : Env} {fr : List Env} {os : OsState} {s : Shared} {l : List Int} {Q : Flow → Shared → Prop} {E : Value → Shared → Prop}
    {l₁ l₂ : List Stmt} {p1 p2 p3 p4 : Pos} {c : Cx} (hcn : c.names = lawNames) (hck : c.kinds = env.scope.names)
    (h1 : isB c c_law1 l₁ = true) (h2 : isB c c_law2 l₂ = true) (k4 : c.kinds.lookup (.ofString "stemmer") = some .local) (k5 : c.kinds.lookup (.ofString "DutchPorterStemmer") = some .globalImplicit)
    (hg : GoodS 42 B ⟨A, env, fr, lawNames, none, os⟩) (V : Inv w B ⟨A, env, fr, lawNames, none, os⟩ none (lawIn l) s) (law : LawGives l)
    (q : ∀ s', B.StaysIn s'.heap → s'.gens = #[] → s'.os = os → Q (.ret (.bool true)) s') :
    wpAny (model pw w) A (execs (l₁ ++ .Assign [.Name (.ofString "stemmer") p1] (.Call (.Name (.ofString "DutchPorterStemmer") p2) [] [] p3) p4 :: l₂) env) Q E s := by
  obtain ⟨σ₁, fl1, σ', e1, e2, e3, e4, e5⟩ := law
  have hk : CallOk w B 40 (cl 40) := callOk hf hlab 1000 40
  have hg0 := hg.less (n' := 40) (by omega)
  refine block_app (S := ⟨A, env, fr, lawNames, none, os⟩) hf hlab hk ⟨hcn.symm, hck.symm⟩ hg0 l₁ c_law1 _ none s h1 e1 V fun g s₁ V₁ _ => ?_
  have hgn : g = none := by
    cases g with
    | none => rfl
    | some a => have := (V₁.gown a rfl).1; rw [e3] at this; cases this
  subst hgn; refine wpAny_execs_cons ?_; refine wpAny_Assign_Name ?_ rfl; rw [arm_eval_Call_Name']
  have hgl : isGlob c (.ofString "DutchPorterStemmer") (.Name (.ofString "DutchPorterStemmer") p2) = true := by
    unfold isGlob; simp only [k5]; decide +kernel
  refine wpAny_bind (glob_ok (n := 40) (S := ⟨A, env, fr, lawNames, none, os⟩) hf hgl ⟨hcn.symm, hck.symm⟩ hg0.toGood V₁ (t1 _) ?_); refine callW (c := c) (l := .nil) (xs := []) (first := []) rfl (Calls.spliced_nil ⟨keepK (mk4 _) ((kIn hf).keeps V₁.stays), ?_⟩); refine new_ok (S := ⟨A, env, fr, lawNames, none, os⟩) hf hlab (n := 39) (N := 1000) (hg.less (n' := 41) (by omega)) rfl (σ := ⟨σ₁.loc, σ₁.fl⟩) V₁ e4 fun x dx s₂ V₂ => ?_
  have hg2 : GoodS 40 B ⟨A, env, fr, lawNames, some (x, dx), os⟩ := hg0.inst _
  have hk4 : env.kindOf (.ofString "stemmer") = some .local := by unfold Env.kindOf; rw [← hck]; exact k4
  refine store_ok (v := .at .me) (i := 4) (S := ⟨A, env, fr, lawNames, some (x, dx), os⟩) hg2 V₂ rfl hk4 e2 ⟨x, dx, rfl, rfl⟩ rfl fun s₃ V₃ _ _ => ?_
  refine soundB hf hlab hk c_law2 c l₂ _ σ' _ ⟨A, env, fr, lawNames, some (x, dx), os⟩ none s₃ _ _ h2 ⟨hcn.symm, hck.symm⟩ e5 hg2 V₃ ⟨fun g' s₄ f V₄ _ o => ?_, fun k hk => by cases hk⟩
  cases f <;> first | (cases o; done) | skip
  obtain ⟨rfl, _⟩ := o; exact q s₄ V₄.stays V₄.gens V₄.os
end Mine
namespace Mine
abbrev aI (i : Int) : Option Atom := some (.int i)
abbrev aS (x : Str) : Option Atom := some (.str x)
theorem cl_at {n f : Nat} {vs : List AV} {fl : FL} {F : Fn} (hF : fns[f]? = some F) (hl : vs.length = F.np) : cl (n + 1) f vs fl = retOf (evB tabs (cl n) 1000 F.body ⟨vs.map some ++ List.replicate (F.names.length - F.np) none, fl⟩) := by
  show callN tabs fns 1000 (n + 1) f vs fl = _
  unfold callN; simp only [hF, hl, if_true]; rfl
theorem set_current_spec (n : Nat) (x : Str) (hx : small x.length = true) (f0 f1 f2 f3 f4 f5 f6 f7 f8 : Option Atom) :
    cl (n + 1) 1 [.at .me, .at (.str x)] [f0, f1, f2, f3, f4, f5, f6, f7, f8] = some (.at (.cst .none), [aS x, aI 0, aI x.length, aI 0, aI 0, aI x.length, f6, f7, f8]) := by
  rw [cl_at (F := ⟨2, _, c_set_current⟩) rfl rfl]; simp [c_set_current, evB, evS, evE, selfIs, isPl, lenV, hx, retOf, ai, as, ab]
end Mine
namespace Mine
def tx (l : List Nat) : Str := ⟨l.toArray⟩
theorem tx_len (l : List Nat) : (tx l).length = l.length := by simp [tx, Str.length]
theorem tx_get (l : List Nat) (i : Nat) : (tx l).cps[i]? = l[i]? := by simp [tx]
abbrev mkF (l : List Nat) (c lim lb b k : Int) (f6 f7 f8 : Option Atom) : FL := [aS (tx l), aI c, aI lim, aI lb, aI b, aI k, f6, f7, f8]
def inSet (a : Addr) (ch : Nat) : Bool := ((setAt a).getD []).contains (chr1 ch)
theorem idx_tx {l : List Nat} {c : Nat} (h : small l.length = true) {ch : Nat} (hc : l[c]? = some ch) : idxV (.at (.str (tx l))) (.at (.int c)) = some (as (chr1 ch)) := by
  unfold idxV; simp [tx_len, h, tx_get, hc]
theorem in_set {a : Addr} {L : List Str} (hL : setAt a = some L) (ch : Nat) : inV (chr1 ch) (.at (.cst (.ref a))) = some (inSet a ch) := by
  unfold inV inSet; simp [hL]
variable {n : Nat} {l : List Nat} {c lb b k : Int} {f6 f7 f8 : Option Atom}
theorem in_grouping_end {a : Addr} {lim : Nat} {c : Nat} (h : lim ≤ c) : cl (n + 1) 3 [.at .me, .at (.cst (.ref a))] (mkF l c lim lb b k f6 f7 f8) = some (ab false, mkF l c lim lb b k f6 f7 f8) := by
  rw [cl_at (F := ⟨2, _, c_in_grouping⟩) rfl rfl]; simp [c_in_grouping, evB, evS, evE, evT, selfIs, isPl, retOf, ai, as, ab, cmpV, truth, h, AV.isOwn]
theorem in_grouping_at {a : Addr} {L : List Str} (hL : setAt a = some L) (hs : small l.length = true) {lim c ch : Nat} (h : c < lim) (hc : l[c]? = some ch) : cl (n + 1) 3 [.at .me, .at (.cst (.ref a))] (mkF l c lim lb b k f6 f7 f8) =
    if inSet a ch then some (ab true, mkF l ((c + 1 : Nat) : Int) lim lb b k f6 f7 f8) else some (ab false, mkF l c lim lb b k f6 f7 f8) := by
  rw [cl_at (F := ⟨2, _, c_in_grouping⟩) rfl rfl]
  have h' : ¬ lim ≤ c := by omega
  simp [c_in_grouping, evB, evS, evE, evT, selfIs, isPl, retOf, ai, as, ab, cmpV, truth, h', idx_tx hs hc, in_set hL, augV, AV.isOwn]
  cases inSet a ch <;> simp [c_in_grouping, evB, evS, evE, evT, selfIs, isPl, retOf, ai, as, ab, cmpV, truth, augV, AV.isOwn]
end Mine
namespace Mine
section
variable {t : AS → Option (Bool × FL)} {b : Step} {N : Nat} {σ σ' : AS} {fl : FL}
theorem while_next (ht : t σ = some (true, fl)) (hb : b ⟨σ.loc, fl⟩ = some (σ', .next)) : whileN t b (N + 1) σ = whileN t b N σ' := by
  rw [whileN]; simp only [ht, hb]
theorem while_cont (ht : t σ = some (true, fl)) (hb : b ⟨σ.loc, fl⟩ = some (σ', .cont)) : whileN t b (N + 1) σ = whileN t b N σ' := by
  rw [whileN]; simp only [ht, hb]
theorem while_brk (ht : t σ = some (true, fl)) (hb : b ⟨σ.loc, fl⟩ = some (σ', .brk)) : whileN t b (N + 1) σ = some (σ', .next) := by
  rw [whileN]; simp only [ht, hb]
theorem while_ret {v : AV} (ht : t σ = some (true, fl)) (hb : b ⟨σ.loc, fl⟩ = some (σ', .ret v)) : whileN t b (N + 1) σ = some (σ', .ret v) := by
  rw [whileN]; simp only [ht, hb]
theorem while_exc {k : Nat} (ht : t σ = some (true, fl)) (hb : b ⟨σ.loc, fl⟩ = some (σ', .exc k)) : whileN t b (N + 1) σ = some (σ', .exc k) := by
  rw [whileN]; simp only [ht, hb]
theorem while_end (ht : t σ = some (false, fl)) : whileN t b (N + 1) σ = some (⟨σ.loc, fl⟩, .next) := by
  rw [whileN]; simp only [ht]
end
variable {n : Nat} {l : List Nat} {lb b k : Int} {f6 f7 f8 : Option Atom}
theorem go_out_loop {a : Addr} {L : List Str} (hL : setAt a = some L) (hs : small l.length = true) : ∀ (r pre : List Nat) (N : Nat), l = pre ++ r → r.length < N →
    whileN (evT tabs (cl n) (.cmp .lt (.fld 1) (.fld 2))) (fun σ => evB tabs (cl n) 1000 (.cons (.ite (.cmp .isin (.idx (.fld 0) (.fld 1)) (.var 1)) (.cons (.ret (.bool true)) .nil) .nil) (.cons (.augf 1 .add (.int 1)) .nil)) σ) N
      ⟨[some (.at .me), some (.at (.cst (.ref a)))], mkF l pre.length l.length lb b k f6 f7 f8⟩ =
    match r.findIdx? (inSet a) with
    | some i => some (⟨[some (.at .me), some (.at (.cst (.ref a)))], mkF l ((pre.length + i : Nat) : Int) l.length lb b k f6 f7 f8⟩, .ret (ab true))
    | none => some (⟨[some (.at .me), some (.at (.cst (.ref a)))], mkF l l.length l.length lb b k f6 f7 f8⟩, .next)
  | [], pre, N + 1, h, _ => by
    subst h; refine (while_end (fl := mkF (pre ++ []) pre.length (pre ++ []).length lb b k f6 f7 f8) ?_).trans ?_
    · simp [evT, evE, selfIs, cmpV, truth, ab]
    · simp
  | ch :: r, pre, N + 1, h, hN => by
    have hc : l[pre.length]? = some ch := by subst h; simp
    have hlt : pre.length < l.length := by subst h; simp
    have ih := go_out_loop hL hs r (pre ++ [ch]) N (by subst h; simp) (by simp at hN; omega)
    have ht : evT tabs (cl n) (.cmp .lt (.fld 1) (.fld 2)) ⟨[some (.at .me), some (.at (.cst (.ref a)))], mkF l pre.length l.length lb b k f6 f7 f8⟩ = some (true, mkF l pre.length l.length lb b k f6 f7 f8) := by
      simp [evT, evE, selfIs, cmpV, truth, ab, hlt]
    rw [List.findIdx?_cons]
    cases hch : inSet a ch with
    | true =>
      refine (while_ret ht (σ' := ⟨[some (.at .me), some (.at (.cst (.ref a)))], mkF l pre.length l.length lb b k f6 f7 f8⟩) (v := ab true) ?_).trans ?_
      · simp [evT, evB, evS, evE, selfIs, cmpV, truth, ab, ai, as, idx_tx hs hc, in_set hL, hch, AV.isOwn]
      · simp
    | false =>
      refine (while_next ht (σ' := ⟨[some (.at .me), some (.at (.cst (.ref a)))], mkF l ((pre ++ [ch]).length : Nat) l.length lb b k f6 f7 f8⟩) ?_).trans (ih.trans ?_)
      · simp [evT, evB, evS, evE, selfIs, cmpV, truth, ab, ai, as, idx_tx hs hc, in_set hL, hch, AV.isOwn, augV, isPl]
      · cases r.findIdx? (inSet a) with
        | none => rfl
        | some i => simp; omega
end Mine
namespace Mine
variable {n : Nat} {l : List Nat} {lb b k : Int} {f6 f7 f8 : Option Atom}
theorem go_in_loop {a : Addr} {L : List Str} (hL : setAt a = some L) (hs : small l.length = true) : ∀ (r pre : List Nat) (N : Nat), l = pre ++ r → r.length < N →
    whileN (evT tabs (cl n) (.cmp .lt (.fld 1) (.fld 2))) (fun σ => evB tabs (cl n) 1000 (.cons (.ite (.cmp .notin (.idx (.fld 0) (.fld 1)) (.var 1)) (.cons (.ret (.bool true)) .nil) .nil) (.cons (.augf 1 .add (.int 1)) .nil)) σ) N
      ⟨[some (.at .me), some (.at (.cst (.ref a)))], mkF l pre.length l.length lb b k f6 f7 f8⟩ =
    match r.findIdx? (fun c => !inSet a c) with
    | some i => some (⟨[some (.at .me), some (.at (.cst (.ref a)))], mkF l ((pre.length + i : Nat) : Int) l.length lb b k f6 f7 f8⟩, .ret (ab true))
    | none => some (⟨[some (.at .me), some (.at (.cst (.ref a)))], mkF l l.length l.length lb b k f6 f7 f8⟩, .next)
  | [], pre, N + 1, h, _ => by
    subst h; refine (while_end (fl := mkF (pre ++ []) pre.length (pre ++ []).length lb b k f6 f7 f8) ?_).trans ?_
    · simp [evT, evE, selfIs, cmpV, truth, ab]
    · simp
  | ch :: r, pre, N + 1, h, hN => by
    have hc : l[pre.length]? = some ch := by subst h; simp
    have hlt : pre.length < l.length := by subst h; simp
    have ih := go_in_loop hL hs r (pre ++ [ch]) N (by subst h; simp) (by simp at hN; omega)
    have ht : evT tabs (cl n) (.cmp .lt (.fld 1) (.fld 2)) ⟨[some (.at .me), some (.at (.cst (.ref a)))], mkF l pre.length l.length lb b k f6 f7 f8⟩ = some (true, mkF l pre.length l.length lb b k f6 f7 f8) := by
      simp [evT, evE, selfIs, cmpV, truth, ab, hlt]
    rw [List.findIdx?_cons]
    cases hch : inSet a ch with
    | false =>
      refine (while_ret ht (σ' := ⟨[some (.at .me), some (.at (.cst (.ref a)))], mkF l pre.length l.length lb b k f6 f7 f8⟩) (v := ab true) ?_).trans ?_
      · simp [evT, evB, evS, evE, selfIs, cmpV, truth, ab, ai, as, idx_tx hs hc, in_set hL, hch, AV.isOwn]
      · simp
    | true =>
      refine (while_next ht (σ' := ⟨[some (.at .me), some (.at (.cst (.ref a)))], mkF l ((pre ++ [ch]).length : Nat) l.length lb b k f6 f7 f8⟩) ?_).trans (ih.trans ?_)
      · simp [evT, evB, evS, evE, selfIs, cmpV, truth, ab, ai, as, idx_tx hs hc, in_set hL, hch, AV.isOwn, augV, isPl]
      · cases r.findIdx? (fun c => !inSet a c) with
        | none => rfl
        | some i => simp; omega
theorem go_out_spec {a : Addr} {L : List Str} (hL : setAt a = some L) (hs : l.length < 1000) {c : Nat} (hc : c ≤ l.length) :
    cl (n + 1) 5 [.at .me, .at (.cst (.ref a))] (mkF l c l.length lb b k f6 f7 f8) =
    match (l.drop c).findIdx? (inSet a) with
    | some i => some (ab true, mkF l ((c + i : Nat) : Int) l.length lb b k f6 f7 f8)
    | none => some (ab false, mkF l l.length l.length lb b k f6 f7 f8) := by
  have h := go_out_loop (n := n) (l := l) (lb := lb) (b := b) (k := k) (f6 := f6) (f7 := f7) (f8 := f8) hL (by simp [small]; omega) (l.drop c) (l.take c) 1000 (by simp) (by simp; omega)
  rw [List.length_take, Nat.min_eq_left hc] at h; rw [cl_at (F := ⟨2, _, c_go_out_grouping⟩) rfl rfl]; show retOf (evB tabs (cl n) 1000 (.cons (.while _ _) _) ⟨[some (.at .me), some (.at (.cst (.ref a)))], _⟩) = _; unfold evB evS; rw [h]
  cases (l.drop c).findIdx? (inSet a) with
  | some i => rfl
  | none => rfl
theorem go_in_spec {a : Addr} {L : List Str} (hL : setAt a = some L) (hs : l.length < 1000) {c : Nat} (hc : c ≤ l.length) :
    cl (n + 1) 4 [.at .me, .at (.cst (.ref a))] (mkF l c l.length lb b k f6 f7 f8) =
    match (l.drop c).findIdx? (fun c => !inSet a c) with
    | some i => some (ab true, mkF l ((c + i : Nat) : Int) l.length lb b k f6 f7 f8)
    | none => some (ab false, mkF l l.length l.length lb b k f6 f7 f8) := by
  have h := go_in_loop (n := n) (l := l) (lb := lb) (b := b) (k := k) (f6 := f6) (f7 := f7) (f8 := f8) hL (by simp [small]; omega) (l.drop c) (l.take c) 1000 (by simp) (by simp; omega)
  rw [List.length_take, Nat.min_eq_left hc] at h; rw [cl_at (F := ⟨2, _, c_go_in_grouping⟩) rfl rfl]; show retOf (evB tabs (cl n) 1000 (.cons (.while _ _) _) ⟨[some (.at .me), some (.at (.cst (.ref a)))], _⟩) = _; unfold evB evS; rw [h]
  cases (l.drop c).findIdx? (fun c => !inSet a c) with
  | some i => rfl
  | none => rfl
end Mine
namespace Mine
variable {n : Nat} {l : List Nat} {c lim lb b k : Int} {f6 f7 f8 : Option Atom}
theorem out_b_end {a : Addr} {c : Nat} (h : c = 0) : cl (n + 1) 6 [.at .me, .at (.cst (.ref a))] (mkF l c lim 0 b k f6 f7 f8) = some (ab false, mkF l c lim 0 b k f6 f7 f8) := by
  subst h; rw [cl_at (F := ⟨2, _, c_out_grouping_b⟩) rfl rfl]; simp [c_out_grouping_b, evB, evS, evE, evT, selfIs, isPl, retOf, ai, as, ab, cmpV, truth, AV.isOwn]
theorem out_b_at {a : Addr} {L : List Str} (hL : setAt a = some L) (hs : small l.length = true) {c ch : Nat} (hc : l[c]? = some ch) : cl (n + 1) 6 [.at .me, .at (.cst (.ref a))] (mkF l ((c + 1 : Nat) : Int) lim 0 b k f6 f7 f8) =
    if inSet a ch then some (ab false, mkF l ((c + 1 : Nat) : Int) lim 0 b k f6 f7 f8) else some (ab true, mkF l c lim 0 b k f6 f7 f8) := by
  rw [cl_at (F := ⟨2, _, c_out_grouping_b⟩) rfl rfl]
  have e1 : ((c : Int) + 1) - 1 = c := by omega
  have e2 : ¬ ((c : Int) + 1 ≤ 0) := by omega
  simp [c_out_grouping_b, evB, evS, evE, evT, selfIs, isPl, retOf, ai, as, ab, cmpV, truth, AV.isOwn, binV, e1, e2]; rw [show idxV (.at (.str (tx l))) (.at (.int c)) = some (as (chr1 ch)) from idx_tx hs hc]; simp [as, in_set hL]
  cases inSet a ch <;> simp [augV, evB, evS, evE, evT, selfIs, isPl, retOf, ai, as, ab, e1, AV.isOwn]
theorem R1_spec {p : Int} : cl (n + 1) 18 [.at .me] (mkF l c lim lb b k (aI p) f7 f8) = some (ab (decide (p ≤ c)), mkF l c lim lb b k (aI p) f7 f8) := by
  rw [cl_at (F := ⟨1, _, c_r_R1⟩) rfl rfl]; simp [c_r_R1, evB, evS, evE, evT, selfIs, isPl, retOf, ai, as, ab, cmpV, truth, AV.isOwn]
theorem R2_spec {p : Int} : cl (n + 1) 19 [.at .me] (mkF l c lim lb b k f6 (aI p) f8) = some (ab (decide (p ≤ c)), mkF l c lim lb b k f6 (aI p) f8) := by
  rw [cl_at (F := ⟨1, _, c_r_R2⟩) rfl rfl]; simp [c_r_R2, evB, evS, evE, evT, selfIs, isPl, retOf, ai, as, ab, cmpV, truth, AV.isOwn]
theorem get_spec : cl (n + 1) 2 [.at .me] (mkF l c lim lb b k f6 f7 f8) = some (as (tx l), mkF l c lim lb b k f6 f7 f8) := by
  rw [cl_at (F := ⟨1, _, c_get_current⟩) rfl rfl]; simp [c_get_current, evB, evS, evE, evT, selfIs, isPl, retOf, ai, as, ab, AV.isOwn]
theorem set_spec (hs : small l.length = true) (f0 f1 f2 f3 f4 f5 f6 f7 f8 : Option Atom) : cl (n + 1) 1 [.at .me, as (tx l)] [f0, f1, f2, f3, f4, f5, f6, f7, f8] = some (.at (.cst .none), mkF l 0 l.length 0 0 l.length f6 f7 f8) := by
  rw [← tx_len]; exact set_current_spec n (tx l) (by rw [tx_len]; exact hs) ..
end Mine
namespace Mine
variable {n : Nat} {l : List Nat} {lim lb b k : Int} {f6 f7 f8 : Option Atom}
theorem slice_tx {lo hi : Nat} (hs : small l.length = true) (h1 : lo < 1000) (h2 : hi < 1000) : sliceV (.at (.str (tx l))) (some (lo : Int)) (some (hi : Int)) = some (as (tx ((l.take hi).drop lo))) := by
  have e1 : (lo : Int) < 2 ^ 62 := by omega
  have e2 : (hi : Int) < 2 ^ 62 := by omega
  unfold sliceV; simp [tx_len, hs]; refine ⟨⟨by omega, by omega⟩, ?_⟩; simp [tx]
theorem from_tx {lo : Nat} (hs : small l.length = true) (h1 : lo < 1000) : sliceV (.at (.str (tx l))) (some (lo : Int)) none = some (as (tx (l.drop lo))) := by
  unfold sliceV; simp [tx_len, hs]; refine ⟨by omega, ?_⟩; simp [tx]
theorem ends_tx {x y : List Nat} (h1 : small x.length = true) (h2 : small y.length = true) : endsV (.at (.str (tx x))) (.at (.str (tx y))) = some (ab (y.isSuffixOf x)) := by
  unfold endsV; simp [tx_len, h1, h2]; simp [tx]
theorem add_tx {x y : List Nat} (h : small (x.length + y.length) = true) : binV .add (.at (.str (tx x))) (.at (.str (tx y))) = some (as (tx (x ++ y))) := by
  unfold binV; simp [tx_len, h]; refine congrArg as (Str.ext' ?_); rw [Str.cps_append]; simp [tx]
end Mine
namespace Mine
variable {n : Nat} {l : List Nat} {lim lb b k : Int} {f6 f7 f8 : Option Atom}
theorem eq_b_spec {c : Nat} {y : List Nat} (hl : l.length < 1000) (hy : y.length < 1000) (hc : c ≤ l.length) :
    cl (n + 1) 7 [.at .me, as (tx y)] (mkF l c lim 0 b k f6 f7 f8) =
    if y.isSuffixOf (l.take c) then some (ab true, mkF l ((c : Int) - (y.length : Int)) lim 0 b k f6 f7 f8) else some (ab false, mkF l c lim 0 b k f6 f7 f8) := by
  have hs : small l.length = true := by simp [small]; omega
  have hy' : small y.length = true := by simp [small]; omega
  have ht : small (l.take c).length = true := by simp [small]; omega
  rw [cl_at (F := ⟨2, _, c_eq_s_b⟩) rfl rfl]
  have e := slice_tx (l := l) (lo := 0) (hi := c) hs (by omega) (by omega)
  rw [List.drop_zero] at e; simp only [Int.natCast_zero, as] at e; simp [c_eq_s_b, evB, evS, evE, evT, selfIs, isPl, retOf, ai, as, ab, truth, AV.isOwn, e]; rw [ends_tx ht hy']
  cases hq : y.isSuffixOf (l.take c) <;> simp [evB, evS, evE, evT, selfIs, isPl, retOf, ai, as, ab, truth, AV.isOwn, lenV, tx_len, hy', augV]
  · intro h; rw [List.isSuffixOf_iff_suffix.mpr h] at hq; cases hq
  · exact List.isSuffixOf_iff_suffix.mp hq
end Mine
namespace Mine
variable {n : Nat} {l : List Nat} {lb : Int} {f6 f7 f8 : Option Atom}
theorem tx_app (x y : List Nat) : tx x ++ tx y = tx (x ++ y) := by
  refine Str.ext' ?_; rw [Str.cps_append]; simp [tx]
def moved (c b k : Nat) (d : Int) : Int := if k ≤ c then (c : Int) + d else if b < c then b else c
theorem replace_spec {c lim b k : Nat} {B K : Int} {y : List Nat} (hl : l.length + y.length < 1000) (hb : b ≤ k) (hk : k ≤ l.length) :
    cl (n + 1) 10 [.at .me, ai b, ai k, as (tx y)] (mkF l c lim lb B K f6 f7 f8) =
    some (ai ((y.length : Int) - ((k : Int) - b)), mkF (l.take b ++ y ++ l.drop k) (moved c b k ((y.length : Int) - ((k : Int) - b))) ((lim : Int) + ((y.length : Int) - ((k : Int) - b))) lb B K f6 f7 f8) := by
  have hs : small l.length = true := by simp [small]; omega
  have hy : small y.length = true := by simp [small]; omega
  have e1 := slice_tx (l := l) (lo := 0) (hi := b) hs (by omega) (by omega)
  rw [List.drop_zero] at e1; simp only [Int.natCast_zero, as] at e1
  have e2 := from_tx (l := l) (lo := k) hs (by omega)
  simp only [as] at e2
  have s1 : small (min b l.length + y.length) = true := by simp [small]; omega
  have s2 : small (min b l.length + y.length + (l.length - k)) = true := by simp [small]; omega
  have s3 : small (min b l.length + (y.length + (l.length - k))) = true := by simp [small]; omega
  rw [cl_at (F := ⟨4, _, c_replace_s⟩) rfl rfl]; unfold moved
  by_cases h1 : k ≤ c
  · simp [c_replace_s, evB, evS, evE, evT, selfIs, isPl, retOf, ai, as, ab, truth, AV.isOwn, AV.isSt, okSet, bindV, lenV, tx_len, hy, binV, cmpV, augV, e1, e2, h1, s1, s2, s3, tx_app]
  · by_cases h2 : b < c
    · simp [c_replace_s, evB, evS, evE, evT, selfIs, isPl, retOf, ai, as, ab, truth, AV.isOwn, AV.isSt, okSet, bindV, lenV, tx_len, hy, binV, cmpV, augV, e1, e2, h1, h2, s1, s2, s3, tx_app]
    · simp [c_replace_s, evB, evS, evE, evT, selfIs, isPl, retOf, ai, as, ab, truth, AV.isOwn, AV.isSt, okSet, bindV, lenV, tx_len, hy, binV, cmpV, augV, e1, e2, h1, h2, s1, s2, s3, tx_app]
end Mine
namespace Mine
variable {n : Nat} {l : List Nat} {lb : Int} {f6 f7 f8 : Option Atom}
theorem slice_from_spec {c b k : Nat} {y : List Nat} (hl : l.length + y.length < 1000) (hb : b ≤ k) (hk : k ≤ l.length) :
    cl (n + 2) 11 [.at .me, as (tx y)] (mkF l c l.length lb b k f6 f7 f8) =
    some (.at (.cst .none), mkF (l.take b ++ y ++ l.drop k) (moved c b k ((y.length : Int) - ((k : Int) - b))) ((l.length : Int) + ((y.length : Int) - ((k : Int) - b))) lb b ((b : Int) + y.length) f6 f7 f8) := by
  have hs : small l.length = true := by simp [small]; omega
  have hy : small y.length = true := by simp [small]; omega
  have e := replace_spec (n := n) (l := l) (lb := lb) (f6 := f6) (f7 := f7) (f8 := f8) (c := c) (lim := l.length) (b := b) (k := k) (B := b) (K := k) (y := y) hl hb hk
  simp only [ai, as] at e; rw [cl_at (F := ⟨2, _, c_slice_from⟩) rfl rfl]; simp [c_slice_from, evB, evS, evE, evA, evT, selfIs, isPl, retOf, ai, as, ab, truth, AV.isOwn, AV.isSt, okSet, bindV, hasOwn, lenV, tx_len, hs, hy, binV, cmpV, augV, hb, hk]
  have e' := e
  simp at e'; simp [e', binV, lenV, tx_len, hy, ai, selfIs, isPl]
theorem slice_del_spec {c b k : Nat} (hl : l.length < 1000) (hb : b ≤ k) (hk : k ≤ l.length) :
    cl (n + 3) 12 [.at .me] (mkF l c l.length lb b k f6 f7 f8) =
    some (.at (.cst .none), mkF (l.take b ++ l.drop k) (moved c b k (0 - ((k : Int) - b))) ((l.length : Int) + (0 - ((k : Int) - b))) lb b b f6 f7 f8) := by
  have e := slice_from_spec (n := n) (l := l) (lb := lb) (f6 := f6) (f7 := f7) (f8 := f8) (c := c) (b := b) (k := k) (y := []) (by simpa using hl) hb hk
  rw [cl_at (F := ⟨1, _, c_slice_del⟩) rfl rfl]
  have : (⟨#[]⟩ : Str) = tx [] := rfl
  simp only [as] at e; simp [c_slice_del, evB, evS, evE, evA, evT, retOf, ai, as, ab, AV.isOwn, AV.isSt, hasOwn, this]; simp at e; simp [e, AV.isOwn]
end Mine
namespace Mine
def cmpKey : List Nat → List Nat → Nat → Int × Nat
  | _, [], m => (0, m)
  | [], _ :: _, m => (-1, m)
  | x :: r, y :: k, m => if (x : Int) - y ≠ 0 then ((x : Int) - y, m) else cmpKey r k (m + 1)
structure Row where
  key : List Nat
  sub : Int
  res : Int
  deriving Inhabited
def faLoop (rows : List Row) (rest : List Nat) : Nat → Nat → Nat → Nat → Nat → Bool → Option (Nat × Nat)
  | 0, _, _, _, _, _ => none
  | n + 1, i, j, ci, cj, fk =>
    let k := i + (j - i) / 2
    let m := min ci cj
    let d := cmpKey (rest.drop m) (((rows.getD k default).key).drop m) m
    let i' := if d.1 < 0 then i else k
    let j' := if d.1 < 0 then k else j
    let ci' := if d.1 < 0 then ci else d.2
    let cj' := if d.1 < 0 then d.2 else cj
    if j' - i' ≤ 1 then (if 0 < i' then some (i', ci') else if j' = i' then some (i', ci') else if fk then some (i', ci') else faLoop rows rest n i' j' ci' cj' true)
    else faLoop rows rest n i' j' ci' cj' fk
def faPick (rows : List Row) (ci : Nat) : Nat → Nat → Option (Nat × Int)
  | 0, _ => none
  | n + 1, i =>
    let w := rows.getD i default
    if w.key.length ≤ ci then some (w.key.length, w.res) else if w.sub < 0 then some (0, 0) else faPick rows ci n w.sub.toNat
def fa (rows : List Row) (rest : List Nat) : Option (Nat × Int) := (faLoop rows rest 20 0 rows.length 0 0 false).bind fun p => faPick rows p.2 20 p.1
end Mine
namespace Mine
theorem for_next {i : Nat} {b : Step} {a : Atom} {r : List Atom} {σ σ' : AS} (ho : okSet i σ = true) (hb : b ⟨σ.loc.set i (some (.at a)), σ.fl⟩ = some (σ', .next)) : forN i b (a :: r) σ = forN i b r σ' := by
  rw [forN]; simp only [ho, if_true, hb]
theorem for_brk {i : Nat} {b : Step} {a : Atom} {r : List Atom} {σ σ' : AS} (ho : okSet i σ = true) (hb : b ⟨σ.loc.set i (some (.at a)), σ.fl⟩ = some (σ', .brk)) : forN i b (a :: r) σ = some (σ', .next) := by
  rw [forN]; simp only [ho, if_true, hb]
variable {n : Nat} {l : List Nat} {lb b k : Int} {f6 f7 f8 : Option Atom}
abbrev vI (i : Int) : Option AV := some (.at (.int i))
abbrev faBody : CB := (.cons (.ite (.cmp .eq (.bin .add (.var 4) (.var 11)) (.var 5)) (.cons (.assign 10 (.neg 1)) (.cons .brk .nil)) .nil) (.cons (.assign 10 (.bin .sub (.ord (.idx (.fld 0) (.bin .add (.var 4) (.var 11)))) (.ord (.idx (.amo (.var 12) (.ofString "s")) (.var 13))))) (.cons (.ite (.cmp .ne (.var 10) (.int 0)) (.cons .brk .nil) .nil) (.cons (.aug 11 .add (.int 1)) .nil))))
abbrev faSt (A wa : Addr) (i j c lim ci cj : Int) (fk : Bool) (kk d m : Int) (x : Option AV) : List (Option AV) :=
  [some (.at .me), some (.at (.cst (.ref A))), vI i, vI j, vI c, vI lim, vI ci, vI cj, some (ab fk), vI kk, vI d, vI m, some (.at (.cst (.ref wa))), x]
theorem ord_idx {l : List Nat} {c : Nat} {ch : Nat} : (chr1 ch).cps.getD 0 0 = ch := rfl
theorem fa_for {A wa : Addr} {i j ci cj kk : Int} {fk : Bool} {c : Nat} {key : List Nat} {f : FL} (hf : f = mkF l c l.length lb b k f6 f7 f8) (hs : l.length < 1000) (hc : c ≤ l.length) (hw : tabs.amo wa (.ofString "s") = some (.str (tx key))) (hk : key.length < 1000) :
    ∀ (r : List Nat) (m : Nat) (x : Option AV), key.drop m = r → c + m ≤ l.length → okSet 13 ⟨faSt A wa i j c l.length ci cj fk kk 0 m x, f⟩ = true →
    ∃ x', okSet 13 ⟨faSt A wa i j c l.length ci cj fk kk (cmpKey (l.drop (c + m)) r m).1 (cmpKey (l.drop (c + m)) r m).2 x', f⟩ = true ∧
      forN 13 (fun σ => evB tabs (cl n) 1000 faBody σ) ((List.range' m r.length).map fun (z : Nat) => Atom.int z) ⟨faSt A wa i j c l.length ci cj fk kk 0 m x, f⟩ =
      some (⟨faSt A wa i j c l.length ci cj fk kk (cmpKey (l.drop (c + m)) r m).1 (cmpKey (l.drop (c + m)) r m).2 x', f⟩, .next)
  | [], m, x, _, _, ho => ⟨x, by simpa [cmpKey] using ho, by simp [cmpKey, forN]⟩
  | y :: r, m, x, hr, hm, ho => by
    have hky : key[m]? = some y := by
      have := congrArg (·[0]?) hr
      simpa using this
    have hr' : key.drop (m + 1) = r := by rw [← List.drop_drop, hr]; rfl
    cases hl : l[c + m]? with
    | none =>
      have he : c + m = l.length := by
        have := List.getElem?_eq_none_iff.mp hl; omega
      have hd : l.drop (c + m) = [] := by rw [he]; simp
      rw [hd]; refine ⟨vI m, rfl, ?_⟩; simp only [List.length_cons, List.range'_succ, List.map_cons]; refine for_brk ho ?_
      have e : (c : Int) + m = l.length := by omega
      simp [cmpKey, evB, evS, evE, evT, truth, binV, cmpV, ai, ab, e, okSet, bindV, AV.isSt]
    | some ch =>
      have hlt : c + m < l.length := (List.getElem?_eq_some_iff.mp hl).1
      have hd : l.drop (c + m) = ch :: l.drop (c + m + 1) := by
        rw [List.drop_eq_getElem_cons hlt]
        congr 1
        exact (List.getElem?_eq_some_iff.mp hl).2
      have e : (((c : Int) + m) == (l.length : Int)) = false := beq_eq_false_iff_ne.mpr (by omega)
      have hi : idxV (.at (.str (tx l))) (.at (.int ((c : Int) + m))) = some (as (chr1 ch)) := by
        have := idx_tx (l := l) (c := c + m) (by simp [small]; omega) hl
        simpa using this
      have hi2 : idxV (.at (.str (tx key))) (.at (.int (m : Int))) = some (as (chr1 y)) := idx_tx (by simp [small]; omega) hky
      have ih := fa_for (A := A) (i := i) (j := j) (ci := ci) (cj := cj) (kk := kk) (fk := fk) hf hs hc hw hk r (m + 1) (vI m) hr' (by omega)
      have e3 : okSet 13 ⟨faSt A wa i j c l.length ci cj fk kk 0 m x, f⟩ = true := ho
      rw [hd]; simp only [List.length_cons, List.range'_succ, List.map_cons]
      by_cases hxy : ch = y
      · subst hxy
        obtain ⟨x', h1, h2⟩ := ih rfl
        have e4 : c + (m + 1) = c + m + 1 := by omega
        rw [e4] at h1 h2; refine ⟨x', ?_, ?_⟩
        · simpa [cmpKey] using h1
        · simp only [cmpKey]
          simp only [Int.sub_self, ne_eq, not_true_eq_false, if_false]; refine (for_next (σ' := ⟨faSt A wa i j c l.length ci cj fk kk 0 ((m + 1 : Nat) : Int) (vI m), f⟩) ho ?_).trans h2; subst hf; simp [evB, evS, evE, evT, truth, binV, cmpV, ai, ab, as, e, okSet, bindV, AV.isSt, selfIs, hi, hi2, hw, augV, ord_idx]; simp [chr1, Str.length]; rfl
      · have hne : (ch : Int) - y ≠ 0 := by omega
        have hne' : ((ch : Int) - y != 0) = true := bne_iff_ne.mpr hne
        refine ⟨vI m, rfl, ?_⟩; simp only [cmpKey, if_pos hne]; refine for_brk ho ?_; subst hf; simp [evB, evS, evE, evT, truth, binV, cmpV, ai, ab, as, e, okSet, bindV, AV.isSt, selfIs, hi, hi2, hw, augV, ord_idx]; simp [chr1, Str.length, hne']; rfl
end Mine
namespace Mine
section
variable {T : Tabs} {Γ : Call} {N : Nat} {s : CS} {r : CB} {σ σ' : AS}
theorem B_next (h : evS T Γ N s σ = some (σ', .next)) : evB T Γ N (.cons s r) σ = evB T Γ N r σ' := by
  rw [evB]; simp only [h]
theorem B_brk (h : evS T Γ N s σ = some (σ', .brk)) : evB T Γ N (.cons s r) σ = some (σ', .brk) := by
  rw [evB]; simp only [h]
theorem B_cont (h : evS T Γ N s σ = some (σ', .cont)) : evB T Γ N (.cons s r) σ = some (σ', .cont) := by
  rw [evB]; simp only [h]
theorem B_ret {v : AV} (h : evS T Γ N s σ = some (σ', .ret v)) : evB T Γ N (.cons s r) σ = some (σ', .ret v) := by
  rw [evB]; simp only [h]
theorem B_exc {k : Nat} (h : evS T Γ N s σ = some (σ', .exc k)) : evB T Γ N (.cons s r) σ = some (σ', .exc k) := by
  rw [evB]; simp only [h]
theorem S_true {t : CE} {a b : CB} {fl : FL} (h : evT T Γ t σ = some (true, fl)) : evS T Γ N (.ite t a b) σ = evB T Γ N a ⟨σ.loc, fl⟩ := by
  rw [evS]; simp only [h]
theorem S_false {t : CE} {a b : CB} {fl : FL} (h : evT T Γ t σ = some (false, fl)) : evS T Γ N (.ite t a b) σ = evB T Γ N b ⟨σ.loc, fl⟩ := by
  rw [evS]; simp only [h]
end
def okv : Option AV → Bool
  | some (.own _) => false
  | _ => true
theorem okSet_eq (i : Nat) (σ : AS) : okSet i σ = (match σ.loc[i]? with | some x => okv x | none => false) := by
  unfold okSet okv
  cases σ.loc[i]? with
  | none => rfl
  | some x => cases x with
    | none => rfl
    | some v => cases v <;> rfl
@[simp] theorem okv_none : okv none = true := rfl
@[simp] theorem okv_at (a : Atom) : okv (some (.at a)) = true := rfl
structure TabOf (A : Addr) (enc : List Nat → List Nat) (rows : List Row) : Prop where
  len : lenV (.at (.cst (.ref A))) = some (ai rows.length)
  row : ∀ k, k < rows.length → ∃ wa, idxV (.at (.cst (.ref A))) (.at (.int (k : Nat))) = some (.at (.cst (.ref wa))) ∧
    tabs.amo wa (.ofString "s") = some (.str (tx (enc (rows.getD k default).key))) ∧ tabs.amo wa (.ofString "substring_i") = some (.int (rows.getD k default).sub) ∧ tabs.amo wa (.ofString "result") = some (.int (rows.getD k default).res)
  sub : ∀ k, k < rows.length → (rows.getD k default).sub < rows.length
  short : ∀ k, (rows.getD k default).key.length < 1000
  enc : ∀ l, (enc l).length = l.length
abbrev faS0 (A : Addr) (i j c lim ci cj : Int) (fk : Bool) (x9 x10 x11 x12 x13 : Option AV) : List (Option AV) :=
  [some (.at .me), some (.at (.cst (.ref A))), vI i, vI j, vI c, vI lim, vI ci, vI cj, some (.at (.cst (.bool fk))), x9, x10, x11, x12, x13]
def ForOk (fs : CS) (n : Nat) (A : Addr) (enc : List Nat → List Nat) (rest : List Nat) (f : FL) (c lim : Int) : Prop :=
  ∀ (i j ci cj kk : Int) (fk : Bool) (wa : Addr) (key : List Nat) (m : Nat) (x : Option AV), key.length < 1000 → tabs.amo wa (.ofString "s") = some (.str (tx (enc key))) → m ≤ rest.length → okv x = true →
    ∃ x', okv x' = true ∧ evS tabs (cl n) 1000 fs ⟨faS0 A i j c lim ci cj fk (vI kk) (vI 0) (vI m) (some (.at (.cst (.ref wa)))) x, f⟩ =
      some (⟨faS0 A i j c lim ci cj fk (vI kk) (vI (cmpKey (rest.drop m) (key.drop m) m).1) (vI (cmpKey (rest.drop m) (key.drop m) m).2) (some (.at (.cst (.ref wa)))) x', f⟩, .next)
abbrev faW (fs : CS) : CB := (.cons (.assign 9 (.bin .add (.var 2) (.bin .shr (.bin .sub (.var 3) (.var 2)) (.int 1)))) (.cons (.assign 10 (.int 0)) (.cons (.assign 11 (.min (.var 6) (.var 7))) (.cons (.assign 12 (.idx (.var 1) (.var 9))) (.cons fs (.cons (.ite (.cmp .lt (.var 10) (.int 0)) (.cons (.assign 3 (.var 9)) (.cons (.assign 7 (.var 11)) .nil)) (.cons (.assign 2 (.var 9)) (.cons (.assign 6 (.var 11)) .nil))) (.cons (.ite (.cmp .le (.bin .sub (.var 3) (.var 2)) (.int 1)) (.cons (.ite (.cmp .gt (.var 2) (.int 0)) (.cons .brk .nil) .nil) (.cons (.ite (.cmp .eq (.var 3) (.var 2)) (.cons .brk .nil) .nil) (.cons (.ite (.var 8) (.cons .brk .nil) .nil) (.cons (.assign 8 (.bool true)) .nil)))) .nil) .nil)))))))
theorem cmpKey_le : ∀ (x y : List Nat) (m : Nat), m ≤ (cmpKey x y m).2 ∧ (cmpKey x y m).2 ≤ m + x.length
  | _, [], m => by simp [cmpKey]
  | [], _ :: _, m => by simp [cmpKey]
  | a :: x, b :: y, m => by
    unfold cmpKey
    split
    · simp
    · have := cmpKey_le x y (m + 1)
      simp only [List.length_cons]; omega
theorem half (i j : Nat) (h : i ≤ j) : (i : Int) + ((j : Int) - (i : Int)).fdiv 2 = ((i + (j - i) / 2 : Nat) : Int) := by
  have : ((j : Int) - (i : Int)) = ((j - i : Nat) : Int) := by omega
  rw [this, Int.fdiv_eq_ediv_of_nonneg _ (by omega)]; omega
theorem min_int (a b : Nat) : (if (b : Int) < (a : Int) then (b : Int) else (a : Int)) = ((min a b : Nat) : Int) := by
  split <;> omega
variable {n : Nat} {A : Addr} {enc : List Nat → List Nat} {rows : List Row} {rest : List Nat} {f : FL} {c lim : Int} {fs : CS}
theorem fa_turn (hT : TabOf A enc rows) (hF : ForOk fs n A enc rest f c lim) {i j ci cj : Nat} {fk : Bool} {x9 x10 x11 x12 x13 : Option AV} (h1 : i < rows.length) (h2 : i ≤ j) (h3 : j ≤ rows.length) (h4 : ci ≤ rest.length) (h5 : cj ≤ rest.length)
    (o9 : okv x9 = true) (o10 : okv x10 = true) (o11 : okv x11 = true) (o12 : okv x12 = true) (o13 : okv x13 = true) {k m : Nat} {d : Int × Nat} (hk : k = i + (j - i) / 2) (hm : m = min ci cj) (hd : d = cmpKey (rest.drop m) (((rows.getD k default).key).drop m) m) :
    ∃ y9 y10 y11 y12 y13, okv y9 = true ∧ okv y10 = true ∧ okv y11 = true ∧ okv y12 = true ∧ okv y13 = true ∧
    evB tabs (cl n) 1000 (faW fs) ⟨faS0 A i j c lim ci cj fk x9 x10 x11 x12 x13, f⟩ =
      evB tabs (cl n) 1000 (.cons (.ite (.cmp .le (.bin .sub (.var 3) (.var 2)) (.int 1)) (.cons (.ite (.cmp .gt (.var 2) (.int 0)) (.cons .brk .nil) .nil) (.cons (.ite (.cmp .eq (.var 3) (.var 2)) (.cons .brk .nil) .nil) (.cons (.ite (.var 8) (.cons .brk .nil) .nil) (.cons (.assign 8 (.bool true)) .nil)))) .nil) .nil)
        ⟨faS0 A ((if d.1 < 0 then i else k : Nat) : Int) ((if d.1 < 0 then k else j : Nat) : Int) c lim ((if d.1 < 0 then ci else d.2 : Nat) : Int) ((if d.1 < 0 then d.2 else cj : Nat) : Int) fk y9 y10 y11 y12 y13, f⟩ := by
  have hkl : k < rows.length := by omega
  have hml : m ≤ rest.length := by omega
  obtain ⟨wa, w1, w2, _, _⟩ := hT.row k hkl; obtain ⟨x', o', e⟩ := hF i j ci cj k fk wa _ m x13 (hT.short k) w2 hml o13; rw [← hd] at e; refine ⟨vI k, vI d.1, vI d.2, some (.at (.cst (.ref wa))), x', rfl, rfl, rfl, rfl, o', ?_⟩; refine (B_next (σ' := ⟨faS0 A i j c lim ci cj fk (vI k) x10 x11 x12 x13, f⟩) ?_).trans ?_
  · simp [evS, evE, binV, ai, AV.isSt, okSet_eq, o9, bindV, half i j h2, hk]
  refine (B_next (σ' := ⟨faS0 A i j c lim ci cj fk (vI k) (vI 0) x11 x12 x13, f⟩) ?_).trans ?_
  · simp [evS, evE, ai, AV.isSt, okSet_eq, o10, bindV]
  refine (B_next (σ' := ⟨faS0 A i j c lim ci cj fk (vI k) (vI 0) (vI m) x12 x13, f⟩) ?_).trans ?_
  · simp [evS, evE, ai, AV.isSt, okSet_eq, o11, bindV, hm]
    split <;> omega
  refine (B_next (σ' := ⟨faS0 A i j c lim ci cj fk (vI k) (vI 0) (vI m) (some (.at (.cst (.ref wa)))) x13, f⟩) ?_).trans ?_
  · simp [evS, evE, ai, AV.isSt, okSet_eq, o12, bindV, w1]
  refine (B_next e).trans ?_
  by_cases hneg : d.1 < 0
  · simp only [if_pos hneg]
    refine B_next ?_; simp [evS, evB, evE, evT, cmpV, truth, ab, ai, AV.isSt, okSet_eq, bindV, hneg]
  · simp only [if_neg hneg]
    refine B_next ?_; simp [evS, evB, evE, evT, cmpV, truth, ab, ai, AV.isSt, okSet_eq, bindV, hneg]
end Mine
namespace Mine
variable {n : Nat} {A : Addr} {enc : List Nat → List Nat} {rows : List Row} {rest : List Nat} {f : FL} {c lim : Int} {fs : CS}
theorem t_true {T : Tabs} {Γ : Call} (σ : AS) : evT T Γ (.bool true) σ = some (true, σ.fl) := by simp [evT, evE, truth, ab]
theorem fa_loop (hT : TabOf A enc rows) (hF : ForOk fs n A enc rest f c lim) : ∀ (fuel : Nat) {i j ci cj : Nat} {fk : Bool} {x9 x10 x11 x12 x13 : Option AV} {p : Nat × Nat} (N : Nat), i < rows.length → i ≤ j → j ≤ rows.length → ci ≤ rest.length → cj ≤ rest.length →
    okv x9 = true → okv x10 = true → okv x11 = true → okv x12 = true → okv x13 = true → fuel ≤ N → faLoop rows rest fuel i j ci cj fk = some p →
    ∃ (j' cj' : Nat) (fk' : Bool) (y9 y10 y11 y12 y13 : Option AV), okv y9 = true ∧ okv y10 = true ∧ okv y11 = true ∧ okv y12 = true ∧ okv y13 = true ∧ p.1 < rows.length ∧
      whileN (evT tabs (cl n) (.bool true)) (fun σ => evB tabs (cl n) 1000 (faW fs) σ) N ⟨faS0 A i j c lim ci cj fk x9 x10 x11 x12 x13, f⟩ =
      some (⟨faS0 A p.1 j' c lim p.2 cj' fk' y9 y10 y11 y12 y13, f⟩, .next)
  | 0, _, _, _, _, _, _, _, _, _, _, _, _, _, _, _, _, _, _, _, _, _, _, _, h => by simp [faLoop] at h
  | fuel + 1, i, j, ci, cj, fk, x9, x10, x11, x12, x13, p, 0, _, _, _, _, _, _, _, _, _, _, h, _ => by omega
  | fuel + 1, i, j, ci, cj, fk, x9, x10, x11, x12, x13, p, N + 1, h1, h2, h3, h4, h5, o9, o10, o11, o12, o13, hN, h => by
    obtain ⟨k, hk⟩ : ∃ k, k = i + (j - i) / 2 := ⟨_, rfl⟩; obtain ⟨m, hm⟩ : ∃ m, m = min ci cj := ⟨_, rfl⟩; obtain ⟨d, hd⟩ : ∃ d, d = cmpKey (rest.drop m) (((rows.getD k default).key).drop m) m := ⟨_, rfl⟩; obtain ⟨y9, y10, y11, y12, y13, q9, q10, q11, q12, q13, e⟩ := fa_turn (lim := lim) (fk := fk) hT hF h1 h2 h3 h4 h5 o9 o10 o11 o12 o13 hk hm hd
    have hdl : d.2 ≤ rest.length := by
      have := cmpKey_le (rest.drop m) (((rows.getD k default).key).drop m) m
      rw [← hd] at this; simp only [List.length_drop] at this; omega
    rw [faLoop] at h; rw [← hk, ← hm, ← hd] at h; obtain ⟨i', hi'⟩ : ∃ i', i' = (if d.1 < 0 then i else k) := ⟨_, rfl⟩; obtain ⟨j', hj'⟩ : ∃ j', j' = (if d.1 < 0 then k else j) := ⟨_, rfl⟩; obtain ⟨ci', hci'⟩ : ∃ ci', ci' = (if d.1 < 0 then ci else d.2) := ⟨_, rfl⟩; obtain ⟨cj', hcj'⟩ : ∃ cj', cj' = (if d.1 < 0 then d.2 else cj) := ⟨_, rfl⟩; rw [← hi', ← hj', ← hci', ← hcj'] at h e
    have b1 : i' < rows.length := by rw [hi']; split <;> omega
    have b2 : i' ≤ j' := by rw [hi', hj']; split <;> omega
    have b3 : j' ≤ rows.length := by rw [hj']; split <;> omega
    have b4 : ci' ≤ rest.length := by rw [hci']; split <;> omega
    have b5 : cj' ≤ rest.length := by rw [hcj']; split <;> omega
    have stop : ∀ (fk : Bool), (∃ σ' : AS, σ' = ⟨faS0 A i' j' c lim ci' cj' fk y9 y10 y11 y12 y13, f⟩ ∧ evB tabs (cl n) 1000 (faW fs) ⟨faS0 A i j c lim ci cj fk x9 x10 x11 x12 x13, f⟩ = some (σ', .brk)) → p = (i', ci') →
      ∃ (j' cj' : Nat) (fk' : Bool) (y9 y10 y11 y12 y13 : Option AV), okv y9 = true ∧ okv y10 = true ∧ okv y11 = true ∧ okv y12 = true ∧ okv y13 = true ∧ p.1 < rows.length ∧
      whileN (evT tabs (cl n) (.bool true)) (fun σ => evB tabs (cl n) 1000 (faW fs) σ) (N + 1) ⟨faS0 A i j c lim ci cj fk x9 x10 x11 x12 x13, f⟩ =
      some (⟨faS0 A p.1 j' c lim p.2 cj' fk' y9 y10 y11 y12 y13, f⟩, .next) := by
      rintro fk ⟨σ', hσ, hb⟩ rfl
      subst hσ; exact ⟨j', cj', fk, y9, y10, y11, y12, y13, q9, q10, q11, q12, q13, b1, while_brk (t_true _) hb⟩
    by_cases g1 : j' - i' ≤ 1
    · rw [if_pos g1] at h
      have t1 : ((j' : Int) - (i' : Int) ≤ 1) := by omega
      by_cases g2 : 0 < i'
      · rw [if_pos g2] at h
        have t2 : ((i' : Int) > 0) := by omega
        refine stop fk ⟨_, rfl, ?_⟩ (Option.some.inj h).symm; rw [e]; simp [evS, evB, evE, evT, cmpV, truth, ab, ai, binV, t1, t2, g2]
      · rw [if_neg g2] at h
        have t2 : ¬ ((i' : Int) > 0) := by omega
        by_cases g3 : j' = i'
        · rw [if_pos g3] at h
          refine stop fk ⟨_, rfl, ?_⟩ (Option.some.inj h).symm; rw [e]
          have g2' : i' = 0 := by omega
          simp [evS, evB, evE, evT, cmpV, truth, ab, ai, binV, t1, t2, g3, g2']
        · rw [if_neg g3] at h
          have t3 : ((j' : Int) == (i' : Int)) = false := beq_eq_false_iff_ne.mpr (by omega)
          have g2' : i' = 0 := by omega
          have g3' : ¬ j' = 0 := by omega
          cases fk with
          | true =>
            rw [if_pos rfl] at h; refine stop true ⟨_, rfl, ?_⟩ (Option.some.inj h).symm; rw [e]; subst g2'
            have t1' : (j' : Int) ≤ 1 := by omega
            have t3' : ((j' : Int) == 0) = false := beq_eq_false_iff_ne.mpr (by omega)
            simp [evS, evB, evE, evT, cmpV, truth, ab, ai, binV, t1', t3']
          | false =>
            rw [if_neg (by decide)] at h; obtain ⟨j2, cj2, fk2, z9, z10, z11, z12, z13, r9, r10, r11, r12, r13, hp, e2⟩ := fa_loop hT hF fuel (x9 := y9) (x10 := y10) (x11 := y11) (x12 := y12) (x13 := y13) N b1 b2 b3 b4 b5 q9 q10 q11 q12 q13 (by omega) h; refine ⟨j2, cj2, fk2, z9, z10, z11, z12, z13, r9, r10, r11, r12, r13, hp, (while_next (t_true _) ?_).trans e2⟩; rw [e]; subst g2'
            have t1' : (j' : Int) ≤ 1 := by omega
            have t3' : ((j' : Int) == 0) = false := beq_eq_false_iff_ne.mpr (by omega)
            simp [evS, evB, evE, evT, cmpV, truth, ab, ai, binV, t1', t3', okSet_eq, bindV, AV.isSt]
    · rw [if_neg g1] at h
      have t1 : ¬ ((j' : Int) - (i' : Int) ≤ 1) := by omega
      obtain ⟨j2, cj2, fk2, z9, z10, z11, z12, z13, r9, r10, r11, r12, r13, hp, e2⟩ := fa_loop hT hF fuel (x9 := y9) (x10 := y10) (x11 := y11) (x12 := y12) (x13 := y13) N b1 b2 b3 b4 b5 q9 q10 q11 q12 q13 (by omega) h; refine ⟨j2, cj2, fk2, z9, z10, z11, z12, z13, r9, r10, r11, r12, r13, hp, (while_next (t_true _) ?_).trans e2⟩; rw [e]; simp [evS, evB, evE, evT, cmpV, truth, ab, ai, binV, t1]
abbrev faP (o : Bop) : CB := (.cons (.assign 12 (.idx (.var 1) (.var 2))) (.cons (.ite (.cmp .ge (.var 6) (.len (.amo (.var 12) (.ofString "s")))) (.cons (.setf 1 (.bin o (.var 4) (.len (.amo (.var 12) (.ofString "s"))))) (.cons (.ret (.amo (.var 12) (.ofString "result"))) .nil)) .nil) (.cons (.assign 2 (.amo (.var 12) (.ofString "substring_i"))) (.cons (.ite (.cmp .lt (.var 2) (.int 0)) (.cons (.ret (.int 0)) .nil) .nil) .nil))))
theorem fa_pick (hT : TabOf A enc rows) {o : Bop} {g : Nat → Int} (hg : ∀ k : Nat, binV o (.at (.int c)) (.at (.int k)) = some (ai (g k))) (hf : f[1]? = some (some (.int c))) (hg0 : g 0 = c) {ci : Nat} : ∀ (fuel : Nat) {i : Nat} {j cj : Int} {fk : Bool} {x9 x10 x11 x12 x13 : Option AV} {p : Nat × Int} (N : Nat), i < rows.length →
    okv x12 = true → fuel ≤ N → faPick rows ci fuel i = some p →
    ∃ σ' : AS, σ'.fl = f.set 1 (aI (g p.1)) ∧ whileN (evT tabs (cl n) (.bool true)) (fun σ => evB tabs (cl n) 1000 (faP o) σ) N ⟨faS0 A i j c lim ci cj fk x9 x10 x11 x12 x13, f⟩ = some (σ', .ret (ai p.2))
  | 0, _, _, _, _, _, _, _, _, _, _, _, _, _, _, h => by simp [faPick] at h
  | fuel + 1, i, j, cj, fk, x9, x10, x11, x12, x13, p, 0, _, _, h, _ => by omega
  | fuel + 1, i, j, cj, fk, x9, x10, x11, x12, x13, p, N + 1, hi, o12, hN, h => by
    obtain ⟨wa, w1, w2, w3, w4⟩ := hT.row i hi
    have hs : small (tx (enc (rows.getD i default).key)).length = true := by
      rw [tx_len, hT.enc]; have := hT.short i; simp only [small, decide_eq_true_eq]; omega
    have hl : (tx (enc (rows.getD i default).key)).length = (rows.getD i default).key.length := by rw [tx_len, hT.enc]
    rw [hl] at hs; rw [faPick] at h
    have e0 : evS tabs (cl n) 1000 (.assign 12 (.idx (.var 1) (.var 2))) ⟨faS0 A i j c lim ci cj fk x9 x10 x11 x12 x13, f⟩ = some (⟨faS0 A i j c lim ci cj fk x9 x10 x11 (some (.at (.cst (.ref wa)))) x13, f⟩, .next) := by
      simp [evS, evE, w1, okSet_eq, o12, bindV, AV.isSt]
    by_cases g1 : (rows.getD i default).key.length ≤ ci
    · rw [if_pos g1] at h
      cases Option.some.inj h
      refine ⟨⟨faS0 A i j c lim ci cj fk x9 x10 x11 (some (.at (.cst (.ref wa)))) x13, f.set 1 (aI (g (rows.getD i default).key.length))⟩, rfl, while_ret (t_true _) ((B_next e0).trans (B_ret ?_))⟩
      have hgi := hg (rows.getD i default).key.length
      have g1' : (ci : Int) ≥ ((rows.getD i default).key.length : Int) := by omega
      simp only [List.getD_eq_getElem?_getD] at hs hl hgi g1 g1' w2 w3 w4 ⊢; simp [evS, evB, evE, evT, cmpV, truth, ab, ai, as, w2, w4, lenV, hs, hl, g1, selfIs, isPl, hgi, AV.isOwn]
    · rw [if_neg g1] at h
      have e1 : evS tabs (cl n) 1000 (.ite (.cmp .ge (.var 6) (.len (.amo (.var 12) (.ofString "s")))) (.cons (.setf 1 (.bin o (.var 4) (.len (.amo (.var 12) (.ofString "s"))))) (.cons (.ret (.amo (.var 12) (.ofString "result"))) .nil)) .nil) ⟨faS0 A i j c lim ci cj fk x9 x10 x11 (some (.at (.cst (.ref wa)))) x13, f⟩ = some (⟨faS0 A i j c lim ci cj fk x9 x10 x11 (some (.at (.cst (.ref wa)))) x13, f⟩, .next) := by
        simp only [List.getD_eq_getElem?_getD] at hs hl g1 w2 w3 w4 ⊢; simp [evS, evB, evE, evT, cmpV, truth, ab, ai, as, w2, w4, lenV, hs, hl, g1, selfIs, isPl, AV.isOwn]
      have e2 : evS tabs (cl n) 1000 (.assign 2 (.amo (.var 12) (.ofString "substring_i"))) ⟨faS0 A i j c lim ci cj fk x9 x10 x11 (some (.at (.cst (.ref wa)))) x13, f⟩ = some (⟨faS0 A (rows.getD i default).sub j c lim ci cj fk x9 x10 x11 (some (.at (.cst (.ref wa)))) x13, f⟩, .next) := by
        simp [evS, evE, w3, okSet_eq, bindV, AV.isSt]
      by_cases g2 : (rows.getD i default).sub < 0
      · rw [if_pos g2] at h
        cases Option.some.inj h
        have hf' : f.set 1 (aI c) = f := List.ext_getElem? fun z => by
          by_cases hz : 1 = z
          · subst hz
            rw [List.getElem?_set_self ((List.getElem?_eq_some_iff.mp hf).1), hf]
          · rw [List.getElem?_set_ne hz]
        refine ⟨⟨faS0 A (rows.getD i default).sub j c lim ci cj fk x9 x10 x11 (some (.at (.cst (.ref wa)))) x13, f⟩, ?_, while_ret (t_true _) ((B_next e0).trans ((B_next e1).trans ((B_next e2).trans (B_ret ?_))))⟩
        · show f = _
          rw [hg0, hf']
        · simp only [List.getD_eq_getElem?_getD] at g2 ⊢
          simp [evS, evB, evE, evT, cmpV, truth, ab, ai, g2, AV.isOwn]
      · rw [if_neg g2] at h
        have hsub := hT.sub i hi
        obtain ⟨u, hu⟩ : ∃ u : Nat, (rows.getD i default).sub = u := ⟨(rows.getD i default).sub.toNat, by omega⟩; rw [hu] at h hsub e2 g2; obtain ⟨σ', a1, a2⟩ := fa_pick hT hg hf hg0 fuel (i := u) (j := j) (cj := cj) (fk := fk) (x9 := x9) (x10 := x10) (x11 := x11) (x12 := some (.at (.cst (.ref wa)))) (x13 := x13) N (by omega) rfl (by omega) h; refine ⟨σ', a1, (while_next (t_true _) ((B_next e0).trans ((B_next e1).trans ((B_next e2).trans (B_next (σ' := ⟨faS0 A u j c lim ci cj fk x9 x10 x11 (some (.at (.cst (.ref wa)))) x13, f⟩) ?_))))).trans a2⟩
        have g2' : decide ((u : Int) < 0) = false := decide_eq_false g2
        simp [evS, evB, evE, evT, cmpV, truth, ab, ai, AV.isOwn, g2']
end Mine
namespace Mine
variable {n : Nat} {l : List Nat} {lb b k : Int} {f6 f7 f8 : Option Atom}
theorem range_map (m n : Nat) (g : Int → Atom) : ((List.range n).map fun (k : Nat) => (m : Int) + (k : Int)).map g = (List.range' m n).map fun (z : Nat) => g z := by
  rw [List.range'_eq_map_range]; simp
theorem range_mapd (a : Int) (m n : Nat) (g : Int → Atom) : ((List.range n).map fun (k : Nat) => (a - m) - (k : Int)).map g = (List.range' m n).map fun (z : Nat) => g (a - z) := by
  rw [List.range'_eq_map_range]; simp
  intro z _
  congr 1
  omega
theorem len_tx {y : List Nat} (h : small y.length = true) : lenV (.at (.str (tx y))) = some (ai y.length) := by simp only [lenV, tx_len, h, if_true]
theorem for_fwd {A : Addr} {c : Nat} (hs : l.length < 1000) (hc : c ≤ l.length) : ForOk (.for 13 (.range (.cons (.var 11) (.cons (.len (.amo (.var 12) (.ofString "s"))) .nil))) faBody) n A id (l.drop c) (mkF l c l.length lb b k f6 f7 f8) c l.length := by
  intro i j ci cj kk fk wa key m x hk hw hm ox
  have hm' : c + m ≤ l.length := by simp only [List.length_drop] at hm; omega
  obtain ⟨x', h1, h2⟩ := fa_for (n := n) (i := i) (j := j) (ci := ci) (cj := cj) (kk := kk) (fk := fk) (A := A) (lb := lb) (b := b) (k := k) (f6 := f6) (f7 := f7) (f8 := f8) rfl hs hc hw hk (key.drop m) m x rfl hm' (by simp [okSet_eq, ox]); refine ⟨x', by simpa [okSet_eq] using h1, ?_⟩; rw [List.drop_drop]
  have hkk : small (tx (id key)).length = true := by rw [tx_len]; simp only [small, decide_eq_true_eq, id]; omega
  have e1 : evE tabs (cl n) (.range (.cons (.var 11) (.cons (.len (.amo (.var 12) (.ofString "s"))) .nil))) ⟨faS0 A i j c l.length ci cj fk (vI kk) (vI 0) (vI m) (some (.at (.cst (.ref wa)))) x, mkF l c l.length lb b k f6 f7 f8⟩ = some (.rng m key.length 1, mkF l c l.length lb b k f6 f7 f8) := by
    have r1 : rgOk (m : Int) = true := by simp [rgOk]; omega
    have r2 : rgOk (key.length : Int) = true := by simp [rgOk]; omega
    have r3 : lenV (.at (.str (tx key))) = some (ai key.length) := len_tx (by simp only [small, decide_eq_true_eq]; omega)
    have hw' : tabs.amo wa (.ofString "s") = some (.str (tx key)) := hw
    simp [evE, evA, hw', r3, ai, r1, r2]
  have e2 : iterV (.rng m key.length 1) = some ((List.range' m (key.drop m).length).map fun (z : Nat) => Atom.int z) := by
    have r1 : rgOk (m : Int) = true := by simp [rgOk]; omega
    have r2 : rgOk (key.length : Int) = true := by simp [rgOk]; omega
    have e : ((key.length : Int) - (m : Int)).toNat = (key.drop m).length := by rw [List.length_drop]; omega
    have r3 : small (key.drop m).length = true := by simp only [small, decide_eq_true_eq, List.length_drop]; omega
    simp only [iterV, r1, r2, Bool.and_true, if_true, rangeInts, e, r3, Option.map_some]; rw [range_map]
  rw [evS]; simp only [e1, e2]; exact h2
abbrev faBodyB : CB := (.cons (.ite (.cmp .eq (.bin .sub (.var 4) (.var 11)) (.var 5)) (.cons (.assign 10 (.neg 1)) (.cons .brk .nil)) .nil) (.cons (.assign 10 (.bin .sub (.ord (.idx (.fld 0) (.bin .sub (.bin .sub (.var 4) (.int 1)) (.var 11)))) (.ord (.idx (.amo (.var 12) (.ofString "s")) (.var 13))))) (.cons (.ite (.cmp .ne (.var 10) (.int 0)) (.cons .brk .nil) .nil) (.cons (.aug 11 .add (.int 1)) .nil))))
theorem fab_for {A wa : Addr} {i j ci cj kk : Int} {fk : Bool} {c : Nat} {lim : Int} {key : List Nat} {f : FL} (hf : f = mkF l c lim 0 b k f6 f7 f8) (hs : l.length < 1000) (hc : c ≤ l.length) (hw : tabs.amo wa (.ofString "s") = some (.str (tx key.reverse))) (hk : key.length < 1000) :
    ∀ (r : List Nat) (m : Nat) (x : Option AV), key.drop m = r → m ≤ c → okv x = true →
    ∃ x', okv x' = true ∧
      forN 13 (fun σ => evB tabs (cl n) 1000 faBodyB σ) ((List.range' m r.length).map fun (z : Nat) => Atom.int ((key.length : Int) - 1 - z)) ⟨faSt A wa i j c 0 ci cj fk kk 0 m x, f⟩ =
      some (⟨faSt A wa i j c 0 ci cj fk kk (cmpKey ((l.take c).reverse.drop m) r m).1 (cmpKey ((l.take c).reverse.drop m) r m).2 x', f⟩, .next)
  | [], m, x, _, _, ho => ⟨x, ho, by simp [cmpKey, forN]⟩
  | y :: r, m, x, hr, hm, ho => by
    have ho' : okSet 13 ⟨faSt A wa i j c 0 ci cj fk kk 0 m x, f⟩ = true := by simp [okSet_eq, ho]
    have hky : key[m]? = some y := by
      have := congrArg (·[0]?) hr
      simpa using this
    have hml : m < key.length := (List.getElem?_eq_some_iff.mp hky).1
    have hr' : key.drop (m + 1) = r := by rw [← List.drop_drop, hr]; rfl
    have hlen : ((l.take c).reverse).length = c := by simp; omega
    rcases Nat.lt_or_ge m c with hmc | hmc
    · obtain ⟨ch, hl⟩ : ∃ ch, ((l.take c).reverse)[m]? = some ch := ⟨_, List.getElem?_eq_getElem (by rw [hlen]; exact hmc)⟩
      have hd : (l.take c).reverse.drop m = ch :: (l.take c).reverse.drop (m + 1) := by
        rw [List.drop_eq_getElem_cons (by rw [hlen]; exact hmc)]
        congr 1
        exact (List.getElem?_eq_some_iff.mp hl).2
      have hl' : l[c - 1 - m]? = some ch := by
        rw [List.getElem?_reverse (by simp; omega)] at hl; rw [List.getElem?_take] at hl; simp only [List.length_take, Nat.min_eq_left hc] at hl; rw [if_pos (by omega)] at hl; exact hl
      have e : (((c : Int) - m) == 0) = false := beq_eq_false_iff_ne.mpr (by omega)
      have hi : idxV (.at (.str (tx l))) (.at (.int ((c : Int) - 1 - m))) = some (as (chr1 ch)) := by
        have := idx_tx (l := l) (c := c - 1 - m) (by simp [small]; omega) hl'
        have e : ((c - 1 - m : Nat) : Int) = (c : Int) - 1 - m := by omega
        rw [← e]; exact this
      have hi2 : idxV (.at (.str (tx key.reverse))) (.at (.int ((key.length : Int) - 1 - m))) = some (as (chr1 y)) := by
        have h3 : key.reverse[key.length - 1 - m]? = some y := by
          rw [List.getElem?_reverse (by omega)]; rw [show key.length - 1 - (key.length - 1 - m) = m by omega]; exact hky
        have := idx_tx (l := key.reverse) (c := key.length - 1 - m) (by simp [small]; omega) h3
        have e : ((key.length - 1 - m : Nat) : Int) = (key.length : Int) - 1 - m := by omega
        rw [← e]; exact this
      rw [hd]; simp only [List.length_cons, List.range'_succ, List.map_cons]
      by_cases hxy : ch = y
      · subst hxy
        obtain ⟨x', h1, h2⟩ := fab_for (A := A) (i := i) (j := j) (ci := ci) (cj := cj) (kk := kk) (fk := fk) hf hs hc hw hk r (m + 1) (vI ((key.length : Int) - 1 - m)) hr' (by omega) rfl; refine ⟨x', h1, ?_⟩; simp only [cmpKey]; simp only [Int.sub_self, ne_eq, not_true_eq_false, if_false]; refine (for_next (σ' := ⟨faSt A wa i j c 0 ci cj fk kk 0 ((m + 1 : Nat) : Int) (vI ((key.length : Int) - 1 - m)), f⟩) ho' ?_).trans h2; subst hf; simp [evB, evS, evE, evT, truth, binV, cmpV, ai, ab, as, e, okSet, bindV, AV.isSt, selfIs, hi, hi2, hw, augV, ord_idx]; simp [chr1, Str.length]; rfl
      · have hne : (ch : Int) - y ≠ 0 := by omega
        have hne' : ((ch : Int) - y != 0) = true := bne_iff_ne.mpr hne
        refine ⟨vI ((key.length : Int) - 1 - m), rfl, ?_⟩; simp only [cmpKey, if_pos hne]; refine for_brk ho' ?_; subst hf; simp [evB, evS, evE, evT, truth, binV, cmpV, ai, ab, as, e, okSet, bindV, AV.isSt, selfIs, hi, hi2, hw, augV, ord_idx]; simp [chr1, Str.length, hne']; rfl
    · have he : m = c := by omega
      subst he
      have hd : (l.take m).reverse.drop m = [] := by rw [List.drop_eq_nil_iff]; omega
      rw [hd]; refine ⟨vI ((key.length : Int) - 1 - m), rfl, ?_⟩; simp only [List.length_cons, List.range'_succ, List.map_cons]; refine for_brk ho' ?_; simp [cmpKey, evB, evS, evE, evT, truth, binV, cmpV, ai, ab, okSet, bindV, AV.isSt]
theorem for_bwd {A : Addr} {c : Nat} {lim : Int} (hs : l.length < 1000) (hc : c ≤ l.length) : ForOk (.for 13 (.range (.cons (.bin .sub (.bin .sub (.len (.amo (.var 12) (.ofString "s"))) (.int 1)) (.var 11)) (.cons (.neg 1) (.cons (.neg 1) .nil)))) faBodyB) n A List.reverse (l.take c).reverse (mkF l c lim 0 b k f6 f7 f8) c 0 := by
  intro i j ci cj kk fk wa key m x hk hw hm ox
  have hm' : m ≤ c := by simp only [List.length_reverse, List.length_take] at hm; omega
  obtain ⟨x', h1, h2⟩ := fab_for (n := n) (i := i) (j := j) (ci := ci) (cj := cj) (kk := kk) (fk := fk) (A := A) (b := b) (k := k) (f6 := f6) (f7 := f7) (f8 := f8) (lim := lim) rfl hs hc hw hk (key.drop m) m x rfl hm' ox; refine ⟨x', h1, ?_⟩
  have hkk : small (tx key.reverse).length = true := by rw [tx_len]; simp only [small, decide_eq_true_eq, List.length_reverse]; omega
  have e1 : evE tabs (cl n) (.range (.cons (.bin .sub (.bin .sub (.len (.amo (.var 12) (.ofString "s"))) (.int 1)) (.var 11)) (.cons (.neg 1) (.cons (.neg 1) .nil)))) ⟨faS0 A i j c 0 ci cj fk (vI kk) (vI 0) (vI m) (some (.at (.cst (.ref wa)))) x, mkF l c lim 0 b k f6 f7 f8⟩ = some (.rng ((key.length : Int) - 1 - m) (-1) (-1), mkF l c lim 0 b k f6 f7 f8) := by
    have r1 : rgOk ((key.length : Int) - 1 - m) = true := by simp only [rgOk, Bool.and_eq_true, decide_eq_true_eq]; omega
    have r2 : rgOk (-1) = true := by decide
    have r3 : lenV (.at (.str (tx key.reverse))) = some (ai key.length) := by rw [len_tx (by simp only [small, decide_eq_true_eq, List.length_reverse]; omega), List.length_reverse]
    simp [evE, evA, hw, r3, ai, r1, r2, binV]
  have e2 : iterV (.rng ((key.length : Int) - 1 - m) (-1) (-1)) = some ((List.range' m (key.drop m).length).map fun (z : Nat) => Atom.int ((key.length : Int) - 1 - z)) := by
    have r1 : rgOk ((key.length : Int) - 1 - m) = true := by simp only [rgOk, Bool.and_eq_true, decide_eq_true_eq]; omega
    have r2 : rgOk (-1) = true := by decide
    have e : ((key.length : Int) - 1 - (m : Int) - (-1)).toNat = (key.drop m).length := by rw [List.length_drop]; omega
    have r3 : small (key.drop m).length = true := by simp only [small, decide_eq_true_eq, List.length_drop]; omega
    simp only [iterV, r1, r2, Bool.and_true, if_true, rangeInts, if_neg (show ¬ ((-1 : Int) = 1) by decide), e, r3, Option.map_some]; rw [range_mapd]
  rw [evS]; simp only [e1, e2]; exact h2
end Mine
namespace Mine
def cmpB : List Nat → List Nat → Nat → Bool × Nat
  | _, [], m => (false, m)
  | [], _ :: _, m => (true, m)
  | x :: r, y :: k, m => if x = y then cmpB r k (m + 1) else (decide (x < y), m)
theorem cmpB_eq : ∀ (r k : List Nat) (m : Nat), cmpB r k m = (decide ((cmpKey r k m).1 < 0), (cmpKey r k m).2)
  | [], [], m => by simp [cmpB, cmpKey]
  | _ :: _, [], m => by simp [cmpB, cmpKey]
  | [], _ :: _, m => by simp [cmpB, cmpKey]
  | x :: r, y :: k, m => by
    unfold cmpB cmpKey
    by_cases h : x = y
    · subst h; simp [cmpB_eq r k (m + 1)]
    · have : (x : Int) - y ≠ 0 := by omega
      rw [if_neg h, if_pos this]; simp only [Prod.mk.injEq, and_true]
      by_cases h2 : x < y
      · rw [decide_eq_true h2, decide_eq_true (by omega)]
      · rw [decide_eq_false h2, decide_eq_false (by omega)]
theorem lo (y : Nat) {x z : Nat} (h : x < z) (q : z ≤ y := by decide) : ¬ x = y ∧ (y == x) = false ∧ x < y := ⟨by omega, beq_eq_false_iff_ne.mpr (by omega), by omega⟩
theorem hi (y : Nat) {x z : Nat} (h : z < x) (q : y ≤ z := by decide) : ¬ x = y ∧ (y == x) = false ∧ ¬ x < y := ⟨by omega, beq_eq_false_iff_ne.mpr (by omega), by omega⟩
theorem cmpB_nil (r : List Nat) (m : Nat) : cmpB r [] m = (false, m) := by cases r <;> rfl
theorem faLoop_eq (rows : List Row) (rest : List Nat) (n i j ci cj : Nat) (fk : Bool) : faLoop rows rest (n + 1) i j ci cj fk =
    (match cmpB (rest.drop (min ci cj)) (((rows.getD (i + (j - i) / 2) default).key).drop (min ci cj)) (min ci cj) with
    | (true, m) => if i + (j - i) / 2 - i ≤ 1 then (if 0 < i then some (i, ci) else if i + (j - i) / 2 = i then some (i, ci) else if fk then some (i, ci) else faLoop rows rest n i (i + (j - i) / 2) ci m true) else faLoop rows rest n i (i + (j - i) / 2) ci m fk
    | (false, m) => if j - (i + (j - i) / 2) ≤ 1 then (if 0 < i + (j - i) / 2 then some (i + (j - i) / 2, m) else if j = i + (j - i) / 2 then some (i + (j - i) / 2, m) else if fk then some (i + (j - i) / 2, m) else faLoop rows rest n (i + (j - i) / 2) j m cj true) else faLoop rows rest n (i + (j - i) / 2) j m cj fk) := by
  rw [faLoop, cmpB_eq]
  by_cases h : (cmpKey (rest.drop (min ci cj)) (((rows.getD (i + (j - i) / 2) default).key).drop (min ci cj)) (min ci cj)).1 < 0
  · simp only [h, if_true, decide_true]
  · simp only [h, if_false, decide_false]
def rows0 : List Row := [⟨[], -1, 6⟩, ⟨[225], 0, 1⟩, ⟨[228], 0, 1⟩, ⟨[233], 0, 2⟩, ⟨[235], 0, 2⟩, ⟨[237], 0, 3⟩, ⟨[239], 0, 3⟩, ⟨[243], 0, 4⟩, ⟨[246], 0, 4⟩, ⟨[250], 0, 5⟩, ⟨[252], 0, 5⟩]
def end0 (r : List Nat) : Nat × Int := if [225].isPrefixOf r then (1, 1) else if [228].isPrefixOf r then (1, 1) else if [233].isPrefixOf r then (1, 2) else if [235].isPrefixOf r then (1, 2) else if [237].isPrefixOf r then (1, 3) else if [239].isPrefixOf r then (1, 3) else if [243].isPrefixOf r then (1, 4) else if [246].isPrefixOf r then (1, 4) else if [250].isPrefixOf r then (1, 5) else if [252].isPrefixOf r then (1, 5) else (0, 6)
set_option maxHeartbeats 8000000 in
theorem fa_0 (r0 : List Nat) : fa rows0 r0 = some (end0 r0) := by
 rcases r0 with _|⟨x0, r1⟩
 simp [fa, faLoop_eq, faPick, rows0, end0, cmpB, List.isPrefixOf]
 rcases Nat.lt_trichotomy x0 237 with a237|rfl|a237
 rcases Nat.lt_trichotomy x0 228 with a228|rfl|a228
 rcases Nat.lt_trichotomy x0 225 with a225|rfl|a225
 simp [fa, faLoop_eq, faPick, rows0, end0, cmpB, List.isPrefixOf, lo 225 a225, lo 228 a225, lo 233 a225, lo 235 a225, lo 237 a225, lo 239 a225, lo 243 a225, lo 246 a225, lo 250 a225, lo 252 a225]
 simp [fa, faLoop_eq, faPick, rows0, end0, cmpB, List.isPrefixOf]
 simp [fa, faLoop_eq, faPick, rows0, end0, cmpB, List.isPrefixOf, hi 225 a225, lo 228 a228, lo 233 a228, lo 235 a228, lo 237 a228, lo 239 a228, lo 243 a228, lo 246 a228, lo 250 a228, lo 252 a228]
 simp [fa, faLoop_eq, faPick, rows0, end0, cmpB, List.isPrefixOf]
 rcases Nat.lt_trichotomy x0 233 with a233|rfl|a233
 simp [fa, faLoop_eq, faPick, rows0, end0, cmpB, List.isPrefixOf, hi 225 a228, hi 228 a228, lo 233 a233, lo 235 a233, lo 237 a233, lo 239 a233, lo 243 a233, lo 246 a233, lo 250 a233, lo 252 a233]
 simp [fa, faLoop_eq, faPick, rows0, end0, cmpB, List.isPrefixOf]
 rcases Nat.lt_trichotomy x0 235 with a235|rfl|a235
 simp [fa, faLoop_eq, faPick, rows0, end0, cmpB, List.isPrefixOf, hi 225 a233, hi 228 a233, hi 233 a233, lo 235 a235, lo 237 a235, lo 239 a235, lo 243 a235, lo 246 a235, lo 250 a235, lo 252 a235]
 simp [fa, faLoop_eq, faPick, rows0, end0, cmpB, List.isPrefixOf]
 simp [fa, faLoop_eq, faPick, rows0, end0, cmpB, List.isPrefixOf, hi 225 a235, hi 228 a235, hi 233 a235, hi 235 a235, lo 237 a237, lo 239 a237, lo 243 a237, lo 246 a237, lo 250 a237, lo 252 a237]
 simp [fa, faLoop_eq, faPick, rows0, end0, cmpB, List.isPrefixOf]
 rcases Nat.lt_trichotomy x0 246 with a246|rfl|a246
 rcases Nat.lt_trichotomy x0 239 with a239|rfl|a239
 simp [fa, faLoop_eq, faPick, rows0, end0, cmpB, List.isPrefixOf, hi 225 a237, hi 228 a237, hi 233 a237, hi 235 a237, hi 237 a237, lo 239 a239, lo 243 a239, lo 246 a239, lo 250 a239, lo 252 a239]
 simp [fa, faLoop_eq, faPick, rows0, end0, cmpB, List.isPrefixOf]
 rcases Nat.lt_trichotomy x0 243 with a243|rfl|a243
 simp [fa, faLoop_eq, faPick, rows0, end0, cmpB, List.isPrefixOf, hi 225 a239, hi 228 a239, hi 233 a239, hi 235 a239, hi 237 a239, hi 239 a239, lo 243 a243, lo 246 a243, lo 250 a243, lo 252 a243]
 simp [fa, faLoop_eq, faPick, rows0, end0, cmpB, List.isPrefixOf]
 simp [fa, faLoop_eq, faPick, rows0, end0, cmpB, List.isPrefixOf, hi 225 a243, hi 228 a243, hi 233 a243, hi 235 a243, hi 237 a243, hi 239 a243, hi 243 a243, lo 246 a246, lo 250 a246, lo 252 a246]
 simp [fa, faLoop_eq, faPick, rows0, end0, cmpB, List.isPrefixOf]
 rcases Nat.lt_trichotomy x0 250 with a250|rfl|a250
 simp [fa, faLoop_eq, faPick, rows0, end0, cmpB, List.isPrefixOf, hi 225 a246, hi 228 a246, hi 233 a246, hi 235 a246, hi 237 a246, hi 239 a246, hi 243 a246, hi 246 a246, lo 250 a250, lo 252 a250]
 simp [fa, faLoop_eq, faPick, rows0, end0, cmpB, List.isPrefixOf]
 rcases Nat.lt_trichotomy x0 252 with a252|rfl|a252
 simp [fa, faLoop_eq, faPick, rows0, end0, cmpB, List.isPrefixOf, hi 225 a250, hi 228 a250, hi 233 a250, hi 235 a250, hi 237 a250, hi 239 a250, hi 243 a250, hi 246 a250, hi 250 a250, lo 252 a252]
 simp [fa, faLoop_eq, faPick, rows0, end0, cmpB, List.isPrefixOf]
 simp [fa, faLoop_eq, faPick, rows0, end0, cmpB, List.isPrefixOf, hi 225 a252, hi 228 a252, hi 233 a252, hi 235 a252, hi 237 a252, hi 239 a252, hi 243 a252, hi 246 a252, hi 250 a252, hi 252 a252]
def rows1 : List Row := [⟨[], -1, 3⟩, ⟨[73], 0, 2⟩, ⟨[89], 0, 1⟩]
def end1 (r : List Nat) : Nat × Int := if [73].isPrefixOf r then (1, 2) else if [89].isPrefixOf r then (1, 1) else (0, 3)
set_option maxHeartbeats 8000000 in
theorem fa_1 (r0 : List Nat) : fa rows1 r0 = some (end1 r0) := by
 rcases r0 with _|⟨x0, r1⟩
 simp [fa, faLoop_eq, faPick, rows1, end1, cmpB, List.isPrefixOf]
 rcases Nat.lt_trichotomy x0 73 with a73|rfl|a73
 simp [fa, faLoop_eq, faPick, rows1, end1, cmpB, List.isPrefixOf, lo 73 a73, lo 89 a73]
 simp [fa, faLoop_eq, faPick, rows1, end1, cmpB, List.isPrefixOf]
 rcases Nat.lt_trichotomy x0 89 with a89|rfl|a89
 simp [fa, faLoop_eq, faPick, rows1, end1, cmpB, List.isPrefixOf, hi 73 a73, lo 89 a89]
 simp [fa, faLoop_eq, faPick, rows1, end1, cmpB, List.isPrefixOf]
 simp [fa, faLoop_eq, faPick, rows1, end1, cmpB, List.isPrefixOf, hi 73 a89, hi 89 a89]
def rows2 : List Row := [⟨[100, 100], -1, -1⟩, ⟨[107, 107], -1, -1⟩, ⟨[116, 116], -1, -1⟩]
def end2 (r : List Nat) : Nat × Int := if [100, 100].isPrefixOf r then (2, -1) else if [107, 107].isPrefixOf r then (2, -1) else if [116, 116].isPrefixOf r then (2, -1) else (0, 0)
set_option maxHeartbeats 8000000 in
theorem fa_2 (r0 : List Nat) : fa rows2 r0 = some (end2 r0) := by
 rcases r0 with _|⟨x0, r1⟩
 simp [fa, faLoop_eq, faPick, rows2, end2, cmpB, List.isPrefixOf]
 rcases Nat.lt_trichotomy x0 107 with a107|rfl|a107
 rcases Nat.lt_trichotomy x0 100 with a100|rfl|a100
 simp [fa, faLoop_eq, faPick, rows2, end2, cmpB, List.isPrefixOf, lo 100 a100, lo 107 a100, lo 116 a100]
 rcases r1 with _|⟨x1, r2⟩
 simp [fa, faLoop_eq, faPick, rows2, end2, cmpB, List.isPrefixOf]
 rcases Nat.lt_trichotomy x1 100 with b100|rfl|b100
 simp [fa, faLoop_eq, faPick, rows2, end2, cmpB, List.isPrefixOf, lo 100 b100]
 simp [fa, faLoop_eq, faPick, rows2, end2, cmpB, List.isPrefixOf]
 simp [fa, faLoop_eq, faPick, rows2, end2, cmpB, List.isPrefixOf, hi 100 b100]
 simp [fa, faLoop_eq, faPick, rows2, end2, cmpB, List.isPrefixOf, hi 100 a100, lo 107 a107, lo 116 a107]
 rcases r1 with _|⟨x1, r2⟩
 simp [fa, faLoop_eq, faPick, rows2, end2, cmpB, List.isPrefixOf]
 rcases Nat.lt_trichotomy x1 107 with b107|rfl|b107
 simp [fa, faLoop_eq, faPick, rows2, end2, cmpB, List.isPrefixOf, lo 107 b107]
 simp [fa, faLoop_eq, faPick, rows2, end2, cmpB, List.isPrefixOf]
 simp [fa, faLoop_eq, faPick, rows2, end2, cmpB, List.isPrefixOf, hi 107 b107]
 rcases Nat.lt_trichotomy x0 116 with a116|rfl|a116
 simp [fa, faLoop_eq, faPick, rows2, end2, cmpB, List.isPrefixOf, hi 100 a107, hi 107 a107, lo 116 a116]
 rcases r1 with _|⟨x1, r2⟩
 simp [fa, faLoop_eq, faPick, rows2, end2, cmpB, List.isPrefixOf]
 rcases Nat.lt_trichotomy x1 116 with b116|rfl|b116
 simp [fa, faLoop_eq, faPick, rows2, end2, cmpB, List.isPrefixOf, lo 116 b116]
 simp [fa, faLoop_eq, faPick, rows2, end2, cmpB, List.isPrefixOf]
 simp [fa, faLoop_eq, faPick, rows2, end2, cmpB, List.isPrefixOf, hi 116 b116]
 simp [fa, faLoop_eq, faPick, rows2, end2, cmpB, List.isPrefixOf, hi 100 a116, hi 107 a116, hi 116 a116]
def rows3 : List Row := [⟨[101, 110, 101], -1, 2⟩, ⟨[101, 115], -1, 3⟩, ⟨[110, 101], -1, 2⟩, ⟨[110, 101, 100, 101, 104], 2, 1⟩, ⟨[115], -1, 3⟩]
def end3 (r : List Nat) : Nat × Int := if [110, 101, 100, 101, 104].isPrefixOf r then (5, 1) else if [101, 110, 101].isPrefixOf r then (3, 2) else if [110, 101].isPrefixOf r then (2, 2) else if [101, 115].isPrefixOf r then (2, 3) else if [115].isPrefixOf r then (1, 3) else (0, 0)
set_option maxHeartbeats 8000000 in
theorem fa_3 (r0 : List Nat) : fa rows3 r0 = some (end3 r0) := by
 rcases r0 with _|⟨x0, r1⟩
 simp [fa, faLoop_eq, faPick, rows3, end3, cmpB, List.isPrefixOf]
 rcases Nat.lt_trichotomy x0 110 with a110|rfl|a110
 rcases Nat.lt_trichotomy x0 101 with a101|rfl|a101
 simp [fa, faLoop_eq, faPick, rows3, end3, cmpB, List.isPrefixOf, lo 101 a101, lo 110 a101, lo 115 a101]
 rcases r1 with _|⟨x1, r2⟩
 simp [fa, faLoop_eq, faPick, rows3, end3, cmpB, List.isPrefixOf]
 rcases Nat.lt_trichotomy x1 115 with b115|rfl|b115
 rcases Nat.lt_trichotomy x1 110 with b110|rfl|b110
 simp [fa, faLoop_eq, faPick, rows3, end3, cmpB, List.isPrefixOf, lo 110 b110, lo 115 b110]
 rcases r2 with _|⟨x2, r3⟩
 simp [fa, faLoop_eq, faPick, rows3, end3, cmpB, List.isPrefixOf]
 rcases Nat.lt_trichotomy x2 101 with c101|rfl|c101
 simp [fa, faLoop_eq, faPick, rows3, end3, cmpB, List.isPrefixOf, lo 101 c101]
 simp [fa, faLoop_eq, faPick, rows3, end3, cmpB, List.isPrefixOf]
 simp [fa, faLoop_eq, faPick, rows3, end3, cmpB, List.isPrefixOf, hi 101 c101]
 simp [fa, faLoop_eq, faPick, rows3, end3, cmpB, List.isPrefixOf, hi 110 b110, lo 115 b115]
 simp [fa, faLoop_eq, faPick, rows3, end3, cmpB, List.isPrefixOf]
 simp [fa, faLoop_eq, faPick, rows3, end3, cmpB, List.isPrefixOf, hi 110 b115, hi 115 b115]
 simp [fa, faLoop_eq, faPick, rows3, end3, cmpB, List.isPrefixOf, hi 101 a101, lo 110 a110, lo 115 a110]
 rcases r1 with _|⟨x1, r2⟩
 simp [fa, faLoop_eq, faPick, rows3, end3, cmpB, List.isPrefixOf]
 rcases Nat.lt_trichotomy x1 101 with b101|rfl|b101
 simp [fa, faLoop_eq, faPick, rows3, end3, cmpB, List.isPrefixOf, lo 101 b101]
 rcases r2 with _|⟨x2, r3⟩
 simp [fa, faLoop_eq, faPick, rows3, end3, cmpB, List.isPrefixOf]
 rcases Nat.lt_trichotomy x2 100 with c100|rfl|c100
 simp [fa, faLoop_eq, faPick, rows3, end3, cmpB, List.isPrefixOf, lo 100 c100]
 rcases r3 with _|⟨x3, r4⟩
 simp [fa, faLoop_eq, faPick, rows3, end3, cmpB, List.isPrefixOf]
 rcases Nat.lt_trichotomy x3 101 with d101|rfl|d101
 simp [fa, faLoop_eq, faPick, rows3, end3, cmpB, List.isPrefixOf, lo 101 d101]
 rcases r4 with _|⟨x4, r5⟩
 simp [fa, faLoop_eq, faPick, rows3, end3, cmpB, List.isPrefixOf]
 rcases Nat.lt_trichotomy x4 104 with e104|rfl|e104
 simp [fa, faLoop_eq, faPick, rows3, end3, cmpB, List.isPrefixOf, lo 104 e104]
 simp [fa, faLoop_eq, faPick, rows3, end3, cmpB, List.isPrefixOf]
 simp [fa, faLoop_eq, faPick, rows3, end3, cmpB, List.isPrefixOf, hi 104 e104]
 simp [fa, faLoop_eq, faPick, rows3, end3, cmpB, List.isPrefixOf, hi 101 d101]
 simp [fa, faLoop_eq, faPick, rows3, end3, cmpB, List.isPrefixOf, hi 100 c100]
 simp [fa, faLoop_eq, faPick, rows3, end3, cmpB, List.isPrefixOf, hi 101 b101]
 rcases Nat.lt_trichotomy x0 115 with a115|rfl|a115
 simp [fa, faLoop_eq, faPick, rows3, end3, cmpB, List.isPrefixOf, hi 101 a110, hi 110 a110, lo 115 a115]
 simp [fa, faLoop_eq, faPick, rows3, end3, cmpB, List.isPrefixOf]
 simp [fa, faLoop_eq, faPick, rows3, end3, cmpB, List.isPrefixOf, hi 101 a115, hi 110 a115, hi 115 a115]
def rows4 : List Row := [⟨[100, 110, 101], -1, 1⟩, ⟨[103, 105], -1, 2⟩, ⟨[103, 110, 105], -1, 1⟩, ⟨[107, 106, 105, 108], -1, 3⟩, ⟨[114, 97, 97, 98], -1, 4⟩, ⟨[114, 97, 98], -1, 5⟩]
def end4 (r : List Nat) : Nat × Int := if [100, 110, 101].isPrefixOf r then (3, 1) else if [103, 110, 105].isPrefixOf r then (3, 1) else if [103, 105].isPrefixOf r then (2, 2) else if [107, 106, 105, 108].isPrefixOf r then (4, 3) else if [114, 97, 97, 98].isPrefixOf r then (4, 4) else if [114, 97, 98].isPrefixOf r then (3, 5) else (0, 0)
set_option maxHeartbeats 8000000 in
theorem fa_4 (r0 : List Nat) : fa rows4 r0 = some (end4 r0) := by
 rcases r0 with _|⟨x0, r1⟩
 simp [fa, faLoop_eq, faPick, rows4, end4, cmpB, List.isPrefixOf]
 rcases Nat.lt_trichotomy x0 107 with a107|rfl|a107
 rcases Nat.lt_trichotomy x0 103 with a103|rfl|a103
 rcases Nat.lt_trichotomy x0 100 with a100|rfl|a100
 simp [fa, faLoop_eq, faPick, rows4, end4, cmpB, List.isPrefixOf, lo 100 a100, lo 103 a100, lo 107 a100, lo 114 a100]
 rcases r1 with _|⟨x1, r2⟩
 simp [fa, faLoop_eq, faPick, rows4, end4, cmpB, List.isPrefixOf]
 rcases Nat.lt_trichotomy x1 110 with b110|rfl|b110
 simp [fa, faLoop_eq, faPick, rows4, end4, cmpB, List.isPrefixOf, lo 110 b110]
 rcases r2 with _|⟨x2, r3⟩
 simp [fa, faLoop_eq, faPick, rows4, end4, cmpB, List.isPrefixOf]
 rcases Nat.lt_trichotomy x2 101 with c101|rfl|c101
 simp [fa, faLoop_eq, faPick, rows4, end4, cmpB, List.isPrefixOf, lo 101 c101]
 simp [fa, faLoop_eq, faPick, rows4, end4, cmpB, List.isPrefixOf]
 simp [fa, faLoop_eq, faPick, rows4, end4, cmpB, List.isPrefixOf, hi 101 c101]
 simp [fa, faLoop_eq, faPick, rows4, end4, cmpB, List.isPrefixOf, hi 110 b110]
 simp [fa, faLoop_eq, faPick, rows4, end4, cmpB, List.isPrefixOf, hi 100 a100, lo 103 a103, lo 107 a103, lo 114 a103]
 rcases r1 with _|⟨x1, r2⟩
 simp [fa, faLoop_eq, faPick, rows4, end4, cmpB, List.isPrefixOf]
 rcases Nat.lt_trichotomy x1 105 with b105|rfl|b105
 simp [fa, faLoop_eq, faPick, rows4, end4, cmpB, List.isPrefixOf, lo 105 b105, lo 110 b105]
 simp [fa, faLoop_eq, faPick, rows4, end4, cmpB, List.isPrefixOf]
 rcases Nat.lt_trichotomy x1 110 with b110|rfl|b110
 simp [fa, faLoop_eq, faPick, rows4, end4, cmpB, List.isPrefixOf, hi 105 b105, lo 110 b110]
 rcases r2 with _|⟨x2, r3⟩
 simp [fa, faLoop_eq, faPick, rows4, end4, cmpB, List.isPrefixOf]
 rcases Nat.lt_trichotomy x2 105 with c105|rfl|c105
 simp [fa, faLoop_eq, faPick, rows4, end4, cmpB, List.isPrefixOf, lo 105 c105]
 simp [fa, faLoop_eq, faPick, rows4, end4, cmpB, List.isPrefixOf]
 simp [fa, faLoop_eq, faPick, rows4, end4, cmpB, List.isPrefixOf, hi 105 c105]
 simp [fa, faLoop_eq, faPick, rows4, end4, cmpB, List.isPrefixOf, hi 105 b110, hi 110 b110]
 simp [fa, faLoop_eq, faPick, rows4, end4, cmpB, List.isPrefixOf, hi 100 a103, hi 103 a103, lo 107 a107, lo 114 a107]
 rcases r1 with _|⟨x1, r2⟩
 simp [fa, faLoop_eq, faPick, rows4, end4, cmpB, List.isPrefixOf]
 rcases Nat.lt_trichotomy x1 106 with b106|rfl|b106
 simp [fa, faLoop_eq, faPick, rows4, end4, cmpB, List.isPrefixOf, lo 106 b106]
 rcases r2 with _|⟨x2, r3⟩
 simp [fa, faLoop_eq, faPick, rows4, end4, cmpB, List.isPrefixOf]
 rcases Nat.lt_trichotomy x2 105 with c105|rfl|c105
 simp [fa, faLoop_eq, faPick, rows4, end4, cmpB, List.isPrefixOf, lo 105 c105]
 rcases r3 with _|⟨x3, r4⟩
 simp [fa, faLoop_eq, faPick, rows4, end4, cmpB, List.isPrefixOf]
 rcases Nat.lt_trichotomy x3 108 with d108|rfl|d108
 simp [fa, faLoop_eq, faPick, rows4, end4, cmpB, List.isPrefixOf, lo 108 d108]
 simp [fa, faLoop_eq, faPick, rows4, end4, cmpB, List.isPrefixOf]
 simp [fa, faLoop_eq, faPick, rows4, end4, cmpB, List.isPrefixOf, hi 108 d108]
 simp [fa, faLoop_eq, faPick, rows4, end4, cmpB, List.isPrefixOf, hi 105 c105]
 simp [fa, faLoop_eq, faPick, rows4, end4, cmpB, List.isPrefixOf, hi 106 b106]
 rcases Nat.lt_trichotomy x0 114 with a114|rfl|a114
 simp [fa, faLoop_eq, faPick, rows4, end4, cmpB, List.isPrefixOf, hi 100 a107, hi 103 a107, hi 107 a107, lo 114 a114]
 rcases r1 with _|⟨x1, r2⟩
 simp [fa, faLoop_eq, faPick, rows4, end4, cmpB, List.isPrefixOf]
 rcases Nat.lt_trichotomy x1 97 with b97|rfl|b97
 simp [fa, faLoop_eq, faPick, rows4, end4, cmpB, List.isPrefixOf, lo 97 b97]
 rcases r2 with _|⟨x2, r3⟩
 simp [fa, faLoop_eq, faPick, rows4, end4, cmpB, List.isPrefixOf]
 rcases Nat.lt_trichotomy x2 97 with c97|rfl|c97
 simp [fa, faLoop_eq, faPick, rows4, end4, cmpB, List.isPrefixOf, lo 97 c97, lo 98 c97]
 rcases r3 with _|⟨x3, r4⟩
 simp [fa, faLoop_eq, faPick, rows4, end4, cmpB, List.isPrefixOf]
 rcases Nat.lt_trichotomy x3 98 with d98|rfl|d98
 simp [fa, faLoop_eq, faPick, rows4, end4, cmpB, List.isPrefixOf, lo 98 d98]
 simp [fa, faLoop_eq, faPick, rows4, end4, cmpB, List.isPrefixOf]
 simp [fa, faLoop_eq, faPick, rows4, end4, cmpB, List.isPrefixOf, hi 98 d98]
 rcases Nat.lt_trichotomy x2 98 with c98|rfl|c98
 omega
 simp [fa, faLoop_eq, faPick, rows4, end4, cmpB, List.isPrefixOf]
 simp [fa, faLoop_eq, faPick, rows4, end4, cmpB, List.isPrefixOf, hi 97 c98, hi 98 c98]
 simp [fa, faLoop_eq, faPick, rows4, end4, cmpB, List.isPrefixOf, hi 97 b97]
 simp [fa, faLoop_eq, faPick, rows4, end4, cmpB, List.isPrefixOf, hi 100 a114, hi 103 a114, hi 107 a114, hi 114 a114]
def rows5 : List Row := [⟨[97, 97], -1, -1⟩, ⟨[101, 101], -1, -1⟩, ⟨[111, 111], -1, -1⟩, ⟨[117, 117], -1, -1⟩]
def end5 (r : List Nat) : Nat × Int := if [97, 97].isPrefixOf r then (2, -1) else if [101, 101].isPrefixOf r then (2, -1) else if [111, 111].isPrefixOf r then (2, -1) else if [117, 117].isPrefixOf r then (2, -1) else (0, 0)
set_option maxHeartbeats 8000000 in
theorem fa_5 (r0 : List Nat) : fa rows5 r0 = some (end5 r0) := by
 rcases r0 with _|⟨x0, r1⟩
 simp [fa, faLoop_eq, faPick, rows5, end5, cmpB, List.isPrefixOf]
 rcases Nat.lt_trichotomy x0 111 with a111|rfl|a111
 rcases Nat.lt_trichotomy x0 101 with a101|rfl|a101
 rcases Nat.lt_trichotomy x0 97 with a97|rfl|a97
 simp [fa, faLoop_eq, faPick, rows5, end5, cmpB, List.isPrefixOf, lo 97 a97, lo 101 a97, lo 111 a97, lo 117 a97]
 rcases r1 with _|⟨x1, r2⟩
 simp [fa, faLoop_eq, faPick, rows5, end5, cmpB, List.isPrefixOf]
 rcases Nat.lt_trichotomy x1 97 with b97|rfl|b97
 simp [fa, faLoop_eq, faPick, rows5, end5, cmpB, List.isPrefixOf, lo 97 b97]
 simp [fa, faLoop_eq, faPick, rows5, end5, cmpB, List.isPrefixOf]
 simp [fa, faLoop_eq, faPick, rows5, end5, cmpB, List.isPrefixOf, hi 97 b97]
 simp [fa, faLoop_eq, faPick, rows5, end5, cmpB, List.isPrefixOf, hi 97 a97, lo 101 a101, lo 111 a101, lo 117 a101]
 rcases r1 with _|⟨x1, r2⟩
 simp [fa, faLoop_eq, faPick, rows5, end5, cmpB, List.isPrefixOf]
 rcases Nat.lt_trichotomy x1 101 with b101|rfl|b101
 simp [fa, faLoop_eq, faPick, rows5, end5, cmpB, List.isPrefixOf, lo 101 b101]
 simp [fa, faLoop_eq, faPick, rows5, end5, cmpB, List.isPrefixOf]
 simp [fa, faLoop_eq, faPick, rows5, end5, cmpB, List.isPrefixOf, hi 101 b101]
 simp [fa, faLoop_eq, faPick, rows5, end5, cmpB, List.isPrefixOf, hi 97 a101, hi 101 a101, lo 111 a111, lo 117 a111]
 rcases r1 with _|⟨x1, r2⟩
 simp [fa, faLoop_eq, faPick, rows5, end5, cmpB, List.isPrefixOf]
 rcases Nat.lt_trichotomy x1 111 with b111|rfl|b111
 simp [fa, faLoop_eq, faPick, rows5, end5, cmpB, List.isPrefixOf, lo 111 b111]
 simp [fa, faLoop_eq, faPick, rows5, end5, cmpB, List.isPrefixOf]
 simp [fa, faLoop_eq, faPick, rows5, end5, cmpB, List.isPrefixOf, hi 111 b111]
 rcases Nat.lt_trichotomy x0 117 with a117|rfl|a117
 simp [fa, faLoop_eq, faPick, rows5, end5, cmpB, List.isPrefixOf, hi 97 a111, hi 101 a111, hi 111 a111, lo 117 a117]
 rcases r1 with _|⟨x1, r2⟩
 simp [fa, faLoop_eq, faPick, rows5, end5, cmpB, List.isPrefixOf]
 rcases Nat.lt_trichotomy x1 117 with b117|rfl|b117
 simp [fa, faLoop_eq, faPick, rows5, end5, cmpB, List.isPrefixOf, lo 117 b117]
 simp [fa, faLoop_eq, faPick, rows5, end5, cmpB, List.isPrefixOf]
 simp [fa, faLoop_eq, faPick, rows5, end5, cmpB, List.isPrefixOf, hi 117 b117]
 simp [fa, faLoop_eq, faPick, rows5, end5, cmpB, List.isPrefixOf, hi 97 a117, hi 101 a117, hi 111 a117, hi 117 a117]
end Mine
namespace Mine
theorem sN1 : ¬ ((.ofString "substring_i" : Str) = .ofString "s") := by decide +kernel
theorem sN2 : ¬ ((.ofString "result" : Str) = .ofString "s") := by decide +kernel
theorem sN3 : ¬ ((.ofString "result" : Str) = .ofString "substring_i") := by decide +kernel
theorem amo_row {a : Addr} {s : Str} {i r : Int} (h : amoRows.find? (fun z => decide (a = z.1)) = some (a, s, i, r)) :
    tabs.amo a (.ofString "s") = some (.str s) ∧ tabs.amo a (.ofString "substring_i") = some (.int i) ∧ tabs.amo a (.ofString "result") = some (.int r) := by
  show amoAt amoRows a _ = _ ∧ amoAt amoRows a _ = _ ∧ amoAt amoRows a _ = _
  generalize amoRows = L at h
  induction L with
  | nil => simp at h
  | cons x L ih =>
    obtain ⟨b, s', i', r'⟩ := x; rw [List.find?_cons] at h
    by_cases hab : a = b
    · subst hab
      simp only [decide_true] at h
      cases Option.some.inj h
      refine ⟨?_, ?_, ?_⟩
      · rw [amoAt, if_pos rfl, if_pos rfl]
      · rw [amoAt, if_pos rfl, if_neg sN1, if_pos rfl]
      · rw [amoAt, if_pos rfl, if_neg sN2, if_neg sN3, if_pos rfl]
    · simp only [decide_eq_false hab] at h
      obtain ⟨h1, h2, h3⟩ := ih h; refine ⟨?_, ?_, ?_⟩
      · rw [amoAt, if_neg hab]; exact h1
      · rw [amoAt, if_neg hab]; exact h2
      · rw [amoAt, if_neg hab]; exact h3
theorem tab_of {A : Addr} {enc : List Nat → List Nat} {rows : List Row} {as : List Addr} (h1 : amoList A = some as) (h2 : as.length = rows.length) (he : ∀ l, (enc l).length = l.length)
    (h3 : ∀ k, k < rows.length → amoRows.find? (fun z => decide (as.getD k 0 = z.1)) = some (as.getD k 0, tx (enc (rows.getD k default).key), (rows.getD k default).sub, (rows.getD k default).res))
    (h4 : ∀ k, k < rows.length → (rows.getD k default).sub < rows.length ∧ (rows.getD k default).key.length < 1000) : TabOf A enc rows where
  len := by unfold lenV; simp [h1, h2]
  row k hk := by
    refine ⟨as.getD k 0, ?_, amo_row (h3 k hk)⟩; unfold idxV; simp [h1]; rw [List.getElem?_eq_getElem (by omega)]; simp
  sub k hk := (h4 k hk).1
  short k := by
    by_cases hk : k < rows.length
    · exact (h4 k hk).2
    · rw [List.getD_eq_getElem?_getD, List.getElem?_eq_none (by omega)]; decide
  enc := he
theorem tab0 : TabOf 336 id rows0 := tab_of (as := [304, 307, 310, 313, 316, 319, 322, 325, 328, 331, 334]) rfl rfl (fun _ => rfl)
  (fun k hk => by have : k < 11 := hk; rcases k with _|_|_|_|_|_|_|_|_|_|_|k <;> first | rfl | omega) (fun k hk => by have : k < 11 := hk; rcases k with _|_|_|_|_|_|_|_|_|_|_|k <;> first | decide | omega)
theorem tab1 : TabOf 346 id rows1 := tab_of (as := [338, 341, 344]) rfl rfl (fun _ => rfl)
  (fun k hk => by have : k < 3 := hk; rcases k with _|_|_|k <;> first | rfl | omega) (fun k hk => by have : k < 3 := hk; rcases k with _|_|_|k <;> first | decide | omega)
theorem tab2 : TabOf 356 List.reverse rows2 := tab_of (as := [348, 351, 354]) rfl rfl (fun _ => List.length_reverse)
  (fun k hk => by have : k < 3 := hk; rcases k with _|_|_|k <;> first | rfl | omega) (fun k hk => by have : k < 3 := hk; rcases k with _|_|_|k <;> first | decide | omega)
theorem tab3 : TabOf 372 List.reverse rows3 := tab_of (as := [358, 361, 364, 367, 370]) rfl rfl (fun _ => List.length_reverse)
  (fun k hk => by have : k < 5 := hk; rcases k with _|_|_|_|_|k <;> first | rfl | omega) (fun k hk => by have : k < 5 := hk; rcases k with _|_|_|_|_|k <;> first | decide | omega)
theorem tab4 : TabOf 391 List.reverse rows4 := tab_of (as := [374, 377, 380, 383, 386, 389]) rfl rfl (fun _ => List.length_reverse)
  (fun k hk => by have : k < 6 := hk; rcases k with _|_|_|_|_|_|k <;> first | rfl | omega) (fun k hk => by have : k < 6 := hk; rcases k with _|_|_|_|_|_|k <;> first | decide | omega)
theorem tab5 : TabOf 404 List.reverse rows5 := tab_of (as := [393, 396, 399, 402]) rfl rfl (fun _ => List.length_reverse)
  (fun k hk => by have : k < 4 := hk; rcases k with _|_|_|_|k <;> first | rfl | omega) (fun k hk => by have : k < 4 := hk; rcases k with _|_|_|_|k <;> first | decide | omega)
variable {n : Nat} {l : List Nat} {b k : Int} {f6 f7 f8 : Option Atom} {A : Addr} {rows : List Row}
theorem S_while {T : Tabs} {Γ : Call} {N : Nat} {t : CE} {b : CB} {σ : AS} : evS T Γ N (.while t b) σ = whileN (evT T Γ t) (fun σ => evB T Γ N b σ) N σ := by rw [evS]
theorem fwd_spec {lb : Int} {c : Nat} (hs : l.length < 1000) (hc : c ≤ l.length) (hT : TabOf A id rows) (h0 : 0 < rows.length) {p : Nat × Int} (h : fa rows (l.drop c) = some p) :
    cl (n + 1) 8 [.at .me, .at (.cst (.ref A))] (mkF l c l.length lb b k f6 f7 f8) = some (ai p.2, mkF l ((c : Int) + p.1) l.length lb b k f6 f7 f8) := by
  unfold fa at h; obtain ⟨q, hq, hp⟩ := Option.bind_eq_some_iff.mp h; obtain ⟨j', cj', fk', y9, y10, y11, y12, y13, o9, o10, o11, o12, o13, hqi, e1⟩ := fa_loop hT (for_fwd (n := n) (A := A) (lb := lb) (b := b) (k := k) (f6 := f6) (f7 := f7) (f8 := f8) hs hc) 20 (x9 := none) (x10 := none) (x11 := none) (x12 := none) (x13 := none) 1000 h0 (Nat.zero_le _) (Nat.le_refl _) (Nat.zero_le _) (Nat.zero_le _) rfl rfl rfl rfl rfl (by omega) hq; obtain ⟨σ', e2, e3⟩ := fa_pick (n := n) (f := mkF l c l.length lb b k f6 f7 f8) (c := c) (lim := l.length) hT (o := .add) (g := fun k => (c : Int) + k) (fun k => rfl) rfl (by simp) 20 (j := j') (cj := cj') (fk := fk') (x9 := y9) (x10 := y10) (x11 := y11) (x12 := y12) (x13 := y13) 1000 hqi o12 (by omega) hp; rw [cl_at (F := ⟨2, _, c_find_among⟩) rfl rfl]
  have e0 : evB tabs (cl n) 1000 c_find_among ⟨[some (.at .me), some (.at (.cst (.ref A))), none, none, none, none, none, none, none, none, none, none, none, none], mkF l c l.length lb b k f6 f7 f8⟩ = some (σ', .ret (ai p.2)) := by
    unfold c_find_among; refine (B_next (σ' := ⟨[some (.at .me), some (.at (.cst (.ref A))), vI 0, none, none, none, none, none, none, none, none, none, none, none], mkF l c l.length lb b k f6 f7 f8⟩) ?_).trans ?_
    · simp [evS, evE, ai, AV.isSt, okSet_eq, bindV]
    refine (B_next (σ' := ⟨[some (.at .me), some (.at (.cst (.ref A))), vI 0, vI rows.length, none, none, none, none, none, none, none, none, none, none], mkF l c l.length lb b k f6 f7 f8⟩) ?_).trans ?_
    · simp [evS, evE, ai, AV.isSt, okSet_eq, bindV, hT.len]
    refine (B_next (σ' := ⟨[some (.at .me), some (.at (.cst (.ref A))), vI 0, vI rows.length, vI c, none, none, none, none, none, none, none, none, none], mkF l c l.length lb b k f6 f7 f8⟩) ?_).trans ?_
    · simp [evS, evE, ai, AV.isSt, okSet_eq, bindV, selfIs]
    refine (B_next (σ' := ⟨[some (.at .me), some (.at (.cst (.ref A))), vI 0, vI rows.length, vI c, vI l.length, none, none, none, none, none, none, none, none], mkF l c l.length lb b k f6 f7 f8⟩) ?_).trans ?_
    · simp [evS, evE, ai, AV.isSt, okSet_eq, bindV, selfIs]
    refine (B_next (σ' := ⟨[some (.at .me), some (.at (.cst (.ref A))), vI 0, vI rows.length, vI c, vI l.length, vI 0, none, none, none, none, none, none, none], mkF l c l.length lb b k f6 f7 f8⟩) ?_).trans ?_
    · simp [evS, evE, ai, AV.isSt, okSet_eq, bindV, selfIs]
    refine (B_next (σ' := ⟨[some (.at .me), some (.at (.cst (.ref A))), vI 0, vI rows.length, vI c, vI l.length, vI 0, vI 0, none, none, none, none, none, none], mkF l c l.length lb b k f6 f7 f8⟩) ?_).trans ?_
    · simp [evS, evE, ai, AV.isSt, okSet_eq, bindV, selfIs]
    refine (B_next (σ' := ⟨faS0 A 0 rows.length c l.length 0 0 false none none none none none, mkF l c l.length lb b k f6 f7 f8⟩) ?_).trans ?_
    · simp [evS, evE, ab, AV.isSt, okSet_eq, bindV, selfIs]
    refine (B_next (S_while.trans e1)).trans ?_; exact B_ret (S_while.trans e3)
  refine (congrArg retOf e0).trans ?_; simp only [retOf, e2]; rfl
theorem bwd_spec {lim : Int} {c : Nat} (hs : l.length < 1000) (hc : c ≤ l.length) (hT : TabOf A List.reverse rows) (h0 : 0 < rows.length) {p : Nat × Int} (h : fa rows (l.take c).reverse = some p) :
    cl (n + 1) 9 [.at .me, .at (.cst (.ref A))] (mkF l c lim 0 b k f6 f7 f8) = some (ai p.2, mkF l ((c : Int) - p.1) lim 0 b k f6 f7 f8) := by
  unfold fa at h; obtain ⟨q, hq, hp⟩ := Option.bind_eq_some_iff.mp h; obtain ⟨j', cj', fk', y9, y10, y11, y12, y13, o9, o10, o11, o12, o13, hqi, e1⟩ := fa_loop hT (for_bwd (n := n) (A := A) (b := b) (k := k) (f6 := f6) (f7 := f7) (f8 := f8) (lim := lim) hs hc) 20 (x9 := none) (x10 := none) (x11 := none) (x12 := none) (x13 := none) 1000 h0 (Nat.zero_le _) (Nat.le_refl _) (Nat.zero_le _) (Nat.zero_le _) rfl rfl rfl rfl rfl (by omega) hq; obtain ⟨σ', e2, e3⟩ := fa_pick (n := n) (f := mkF l c lim 0 b k f6 f7 f8) (c := c) (lim := 0) hT (o := .sub) (g := fun k => (c : Int) - k) (fun k => rfl) rfl (by simp) 20 (j := j') (cj := cj') (fk := fk') (x9 := y9) (x10 := y10) (x11 := y11) (x12 := y12) (x13 := y13) 1000 hqi o12 (by omega) hp; rw [cl_at (F := ⟨2, _, c_find_among_b⟩) rfl rfl]
  have e0 : evB tabs (cl n) 1000 c_find_among_b ⟨[some (.at .me), some (.at (.cst (.ref A))), none, none, none, none, none, none, none, none, none, none, none, none], mkF l c lim 0 b k f6 f7 f8⟩ = some (σ', .ret (ai p.2)) := by
    unfold c_find_among_b; refine (B_next (σ' := ⟨[some (.at .me), some (.at (.cst (.ref A))), vI 0, none, none, none, none, none, none, none, none, none, none, none], mkF l c lim 0 b k f6 f7 f8⟩) ?_).trans ?_
    · simp [evS, evE, ai, AV.isSt, okSet_eq, bindV]
    refine (B_next (σ' := ⟨[some (.at .me), some (.at (.cst (.ref A))), vI 0, vI rows.length, none, none, none, none, none, none, none, none, none, none], mkF l c lim 0 b k f6 f7 f8⟩) ?_).trans ?_
    · simp [evS, evE, ai, AV.isSt, okSet_eq, bindV, hT.len]
    refine (B_next (σ' := ⟨[some (.at .me), some (.at (.cst (.ref A))), vI 0, vI rows.length, vI c, none, none, none, none, none, none, none, none, none], mkF l c lim 0 b k f6 f7 f8⟩) ?_).trans ?_
    · simp [evS, evE, ai, AV.isSt, okSet_eq, bindV, selfIs]
    refine (B_next (σ' := ⟨[some (.at .me), some (.at (.cst (.ref A))), vI 0, vI rows.length, vI c, vI 0, none, none, none, none, none, none, none, none], mkF l c lim 0 b k f6 f7 f8⟩) ?_).trans ?_
    · simp [evS, evE, ai, AV.isSt, okSet_eq, bindV, selfIs]
    refine (B_next (σ' := ⟨[some (.at .me), some (.at (.cst (.ref A))), vI 0, vI rows.length, vI c, vI 0, vI 0, none, none, none, none, none, none, none], mkF l c lim 0 b k f6 f7 f8⟩) ?_).trans ?_
    · simp [evS, evE, ai, AV.isSt, okSet_eq, bindV, selfIs]
    refine (B_next (σ' := ⟨[some (.at .me), some (.at (.cst (.ref A))), vI 0, vI rows.length, vI c, vI 0, vI 0, vI 0, none, none, none, none, none, none], mkF l c lim 0 b k f6 f7 f8⟩) ?_).trans ?_
    · simp [evS, evE, ai, AV.isSt, okSet_eq, bindV, selfIs]
    refine (B_next (σ' := ⟨faS0 A 0 rows.length c 0 0 0 false none none none none none, mkF l c lim 0 b k f6 f7 f8⟩) ?_).trans ?_
    · simp [evS, evE, ab, AV.isSt, okSet_eq, bindV, selfIs]
    refine (B_next (S_while.trans e1)).trans ?_; exact B_ret (S_while.trans e3)
  refine (congrArg retOf e0).trans ?_; simp only [retOf, e2]; rfl
end Mine
namespace Mine
section
variable {T : Tabs} {Γ : Call} {N : Nat} {σ : AS} {fl fl' : FL}
theorem T_of {e : CE} {v : Bool} (h : evE T Γ e σ = some (ab v, fl)) : evT T Γ e σ = some (v, fl) := by
  rw [evT]; simp [h, truth, ab]
theorem T_not {e : CE} {v : Bool} (h : evT T Γ e σ = some (v, fl)) : evT T Γ (.not e) σ = some (!v, fl) := by
  unfold evT at h ⊢; rw [evE]
  cases he : evE T Γ e σ with
  | none => rw [he] at h; cases h
  | some p =>
    rw [he] at h; simp only at h ⊢
    cases ht : truth p.1 with
    | none => rw [ht] at h; cases h
    | some b => rw [ht] at h; cases h; simp [truth, ab]
theorem T_cmp {o : Cop} {a b : CE} {x y : AV} {v : Bool} (h1 : evE T Γ a σ = some (x, fl)) (h2 : evE T Γ b ⟨σ.loc, fl⟩ = some (y, fl')) (h3 : cmpV o x y = some v) : evT T Γ (.cmp o a b) σ = some (v, fl') := by
  refine T_of ?_; rw [evE]; simp [h1, h2, h3]
theorem E_fld {i : Nat} {a : Atom} (h0 : selfIs σ = true) (h : σ.fl[i]? = some (some a)) : evE T Γ (.fld i) σ = some (.at a, σ.fl) := by
  rw [evE]; simp only [h0, if_true, h]
theorem E_callM {i f : Nat} {l : CA} {vs : List AV} {r : AV × FL} (h0 : σ.loc[i]? = some (some (.at .me))) (ha : evA T Γ l σ = some (vs, fl)) (hs : vs.all AV.isSt = true) (ho : hasOwn σ = false) (hc : Γ f (.at .me :: vs) fl = some r) : evE T Γ (.callM i f l) σ = some r := by
  rw [evE]; simp only [h0, ha]; rw [hs, ho]; exact hc
theorem E_callG {f : Nat} {l : CA} {vs : List AV} {r : AV × FL} (ha : evA T Γ l σ = some (vs, fl)) (hs : vs.all AV.isSt = true) (ho : hasOwn σ = false) (hc : Γ f vs fl = some r) : evE T Γ (.callG f l) σ = some r := by
  rw [evE]; simp only [ha]; rw [hs, ho]; exact hc
theorem S_expr {e : CE} {v : AV} (h : evE T Γ e σ = some (v, fl)) : evS T Γ N (.expr e) σ = some (⟨σ.loc, fl⟩, .next) := by
  rw [evS]; simp only [h]
theorem S_ret {e : CE} {v : AV} (h : evE T Γ e σ = some (v, fl)) (ho : v.isOwn = false) : evS T Γ N (.ret e) σ = some (⟨σ.loc, fl⟩, .ret v) := by
  rw [evS]; simp only [h, ho]; rfl
theorem S_assign {i : Nat} {e : CE} {v : AV} (h : evE T Γ e σ = some (v, fl)) (hs : v.isSt = true) (ho : okSet i σ = true) : evS T Γ N (.assign i e) σ = some (bindV i v σ fl, .next) := by
  rw [evS]; simp only [h, hs, ho]; rfl
theorem S_try {k : Nat} {b : CB} {r : AS} {o : Out} (h : evB T Γ N b σ = some (r, o)) (ho : ∀ j, o ≠ .exc j) : evS T Γ N (.try k b) σ = some (r, o) := by
  rw [evS, h]
  cases o <;> first | rfl | (exact absurd rfl (ho _))
theorem S_tryx {k : Nat} {b : CB} {r : AS} (h : evB T Γ N b σ = some (r, .exc k)) : evS T Γ N (.try k b) σ = some (r, .next) := by
  rw [evS, h]; simp
theorem S_tryp {k j : Nat} {b : CB} {r : AS} (h : evB T Γ N b σ = some (r, .exc j)) (hj : ¬ labA j = labA k) : evS T Γ N (.try k b) σ = some (r, .exc j) := by
  rw [evS, h]; simp [hj]
theorem B_raise {k : Nat} {r : CB} : evB T Γ N (.cons (.raise k) r) σ = some (σ, .exc k) := B_exc (by rw [evS])
theorem B_nil : evB T Γ N .nil σ = some (σ, .next) := by rw [evB]
end
abbrev mkR (r : List Nat) (c b k p1 p2 : Int) (f8 : Option Atom) : FL := mkF r.reverse c r.length 0 b k (aI p1) (aI p2) f8
def isV (x : Nat) : Bool := [97, 101, 105, 111, 117, 121, 232].contains x
def isVI (x : Nat) : Bool := [73, 97, 101, 105, 111, 117, 121, 232].contains x
def isVj (x : Nat) : Bool := [97, 101, 105, 106, 111, 117, 121, 232].contains x
theorem chr1_inj (a b : Nat) : (chr1 a == chr1 b) = (a == b) := by
  by_cases h : a = b
  · subst h; simp
  · rw [beq_eq_false_iff_ne.mpr h]
    refine beq_eq_false_iff_ne.mpr fun q => h ?_
    have : (chr1 a).cps = (chr1 b).cps := congrArg Str.cps q
    simpa [chr1] using this
theorem chr1_contains (l : List Nat) (x : Nat) : (l.map chr1).contains (chr1 x) = l.contains x := by
  induction l with
  | nil => rfl
  | cons a l ih => simp only [List.map_cons, List.contains_cons, ih, chr1_inj]
theorem set230 (x : Nat) : inSet 230 x = isV x := chr1_contains [97, 101, 105, 111, 117, 121, 232] x
theorem set231 (x : Nat) : inSet 231 x = isVI x := chr1_contains [73, 97, 101, 105, 111, 117, 121, 232] x
theorem set232 (x : Nat) : inSet 232 x = isVj x := chr1_contains [97, 101, 105, 106, 111, 117, 121, 232] x
theorem take_es (e s : List Nat) : ((e ++ s).reverse).take s.length = s.reverse := by
  rw [List.reverse_append, ← List.length_reverse (as := s), List.take_left]
theorem drop_es (e s : List Nat) : ((e ++ s).reverse).drop s.length = e.reverse := by
  rw [List.reverse_append, ← List.length_reverse (as := s), List.drop_left]
variable {n : Nat} {r e s : List Nat} {b k p1 p2 : Int} {f8 : Option Atom}
theorem del_R (h : (e ++ s).length < 1000) : cl (n + 3) 12 [.at .me] (mkR (e ++ s) s.length s.length (e ++ s).length p1 p2 f8) = some (.at (.cst .none), mkR s s.length s.length s.length p1 p2 f8) := by
  have := slice_del_spec (n := n) (l := (e ++ s).reverse) (lb := 0) (f6 := aI p1) (f7 := aI p2) (f8 := f8) (c := s.length) (b := s.length) (k := (e ++ s).reverse.length) (by rw [List.length_reverse]; exact h) (by simp) (Nat.le_refl _)
  rw [take_es] at this; rw [List.drop_length, List.append_nil] at this; simp only [List.length_reverse] at this; refine this.trans ?_
  have h1 : moved s.length s.length (e ++ s).length (0 - (((e ++ s).length : Int) - s.length)) = s.length := by
    unfold moved; simp only [List.length_append]
    split
    · omega
    · simp
  have h2 : ((e ++ s).length : Int) + (0 - (((e ++ s).length : Int) - s.length)) = s.length := by omega
  rw [h1, h2]
theorem from_R {y : List Nat} (he : e ≠ []) (h : (e ++ s).length + y.length < 1000) : cl (n + 2) 11 [.at .me, as (tx y)] (mkR (e ++ s) s.length s.length (e ++ s).length p1 p2 f8) = some (.at (.cst .none), mkR (y.reverse ++ s) s.length s.length ((s.length : Int) + y.length) p1 p2 f8) := by
  have := slice_from_spec (n := n) (l := (e ++ s).reverse) (lb := 0) (f6 := aI p1) (f7 := aI p2) (f8 := f8) (c := s.length) (b := s.length) (k := (e ++ s).reverse.length) (y := y) (by rw [List.length_reverse]; exact h) (by simp) (Nat.le_refl _)
  rw [take_es] at this; rw [List.drop_length, List.append_nil] at this; simp only [List.length_reverse] at this; refine this.trans ?_
  have h0 : 0 < e.length := List.length_pos_iff.mpr he
  have h1 : moved s.length s.length (e ++ s).length ((y.length : Int) - (((e ++ s).length : Int) - s.length)) = s.length := by
    unfold moved; simp only [List.length_append]
    split
    · omega
    · simp
  have h2 : ((e ++ s).length : Int) + ((y.length : Int) - (((e ++ s).length : Int) - s.length)) = (y.reverse ++ s).length := by simp only [List.length_append, List.length_reverse]; omega
  have h3 : s.reverse ++ y = (y.reverse ++ s).reverse := by simp
  rw [h1, h2, h3]
theorem out_R_nil {a : Addr} : cl (n + 1) 6 [.at .me, .at (.cst (.ref a))] (mkR e 0 b k p1 p2 f8) = some (ab false, mkR e 0 b k p1 p2 f8) := out_b_end (c := 0) rfl
theorem out_R {a : Addr} {L : List Str} {x : Nat} (hL : setAt a = some L) (hs : (e ++ x :: s).length < 1000) : cl (n + 1) 6 [.at .me, .at (.cst (.ref a))] (mkR (e ++ x :: s) (x :: s).length b k p1 p2 f8) =
    some (ab (!inSet a x), mkR (e ++ x :: s) (if inSet a x then (x :: s).length else s.length : Nat) b k p1 p2 f8) := by
  have hc : ((e ++ x :: s).reverse)[s.length]? = some x := by
    rw [List.reverse_append, List.reverse_cons, List.append_assoc, ← List.length_reverse (as := s), List.getElem?_append_right (Nat.le_refl _)]; simp
  have := out_b_at (n := n) (b := b) (k := k) (lim := (e ++ x :: s).length) (f6 := aI p1) (f7 := aI p2) (f8 := f8) hL (l := (e ++ x :: s).reverse) (by simp only [small, decide_eq_true_eq, List.length_reverse]; omega) hc
  refine this.trans ?_
  cases inSet a x <;> rfl
theorem eq_R {y : List Nat} (hs : (e ++ s).length < 1000) (hy : y.length < 1000) : cl (n + 1) 7 [.at .me, as (tx y)] (mkR (e ++ s) s.length b k p1 p2 f8) =
    some (ab (y.reverse.isPrefixOf s), mkR (e ++ s) (if y.reverse.isPrefixOf s then (s.length : Int) - y.length else s.length) b k p1 p2 f8) := by
  have := eq_b_spec (n := n) (b := b) (k := k) (lim := (e ++ s).length) (f6 := aI p1) (f7 := aI p2) (f8 := f8) (l := (e ++ s).reverse) (c := s.length) (y := y) (by rw [List.length_reverse]; exact hs) hy (by simp)
  rw [take_es] at this
  have h : y.isSuffixOf s.reverse = y.reverse.isPrefixOf s := by rw [List.isSuffixOf, List.reverse_reverse]
  rw [h] at this; refine this.trans ?_
  cases y.reverse.isPrefixOf s <;> rfl
theorem bwd_R {A : Addr} {rows : List Row} (hs : (e ++ s).length < 1000) (hT : TabOf A List.reverse rows) (h0 : 0 < rows.length) {p : Nat × Int} (h : fa rows s = some p) :
    cl (n + 1) 9 [.at .me, .at (.cst (.ref A))] (mkR (e ++ s) s.length b k p1 p2 f8) = some (ai p.2, mkR (e ++ s) ((s.length : Int) - p.1) b k p1 p2 f8) :=
  bwd_spec (l := (e ++ s).reverse) (c := s.length) (by rw [List.length_reverse]; exact hs) (by simp) hT h0 (by rw [take_es, List.reverse_reverse]; exact h)
theorem at_v : tabs.cattr (.ofString "g_v") = some 230 := by decide +kernel
theorem at_vI : tabs.cattr (.ofString "g_v_I") = some 231 := by decide +kernel
theorem at_vj : tabs.cattr (.ofString "g_v_j") = some 232 := by decide +kernel
theorem at_a0 : tabs.cattr (.ofString "a_0") = some 336 := by decide +kernel
theorem at_a1 : tabs.cattr (.ofString "a_1") = some 346 := by decide +kernel
theorem at_a2 : tabs.cattr (.ofString "a_2") = some 356 := by decide +kernel
theorem at_a3 : tabs.cattr (.ofString "a_3") = some 372 := by decide +kernel
theorem at_a4 : tabs.cattr (.ofString "a_4") = some 391 := by decide +kernel
theorem at_a5 : tabs.cattr (.ofString "a_5") = some 404 := by decide +kernel
theorem A_cattr {T : Tabs} {Γ : Call} {σ : AS} {x : Str} {a : Addr} (h : T.cattr x = some a) : evA T Γ (.cons (.cattr x) .nil) σ = some ([.at (.cst (.ref a))], σ.fl) := by
  simp [evA, evE, h]
theorem A_str {T : Tabs} {Γ : Call} {σ : AS} {x : Str} : evA T Γ (.cons (.str x) .nil) σ = some ([as x], σ.fl) := by
  simp [evA, evE]
theorem A_nil {T : Tabs} {Γ : Call} {σ : AS} : evA T Γ .nil σ = some ([], σ.fl) := by
  simp [evA]
def dbl (r : List Nat) : Bool := [100, 100].isPrefixOf r || ([107, 107].isPrefixOf r || [116, 116].isPrefixOf r)
def single (r : List Nat) : List Nat := if dbl r then r.tail else r
theorem end2_eq (r : List Nat) : end2 r = if dbl r then (2, -1) else (0, 0) := by
  unfold end2 dbl
  cases [100, 100].isPrefixOf r <;> cases [107, 107].isPrefixOf r <;> cases [116, 116].isPrefixOf r <;> rfl
theorem undouble (hr : r.length < 1000) : ∃ c' b' k' : Int, cl (n + 4) 20 [.at .me] (mkR r r.length b k p1 p2 f8) = some (ab (dbl r), mkR (single r) c' b' k' p1 p2 f8) := by
  rw [cl_at (F := ⟨1, _, c_r_undouble⟩) rfl rfl]
  have hb := bwd_R (n := n + 2) (e := []) (s := r) (b := b) (k := k) (p1 := p1) (p2 := p2) (f8 := f8) hr tab2 (by decide) (fa_2 r)
  simp only [List.nil_append] at hb; rw [end2_eq] at hb
  have hc := E_callM (T := tabs) (σ := ⟨[some (.at .me), vI 0], mkR r r.length b k p1 p2 f8⟩) (i := 0) rfl (A_cattr at_a2) rfl rfl hb
  show ∃ c' b' k' : Int, retOf (evB tabs (cl (n + 3)) 1000 c_r_undouble ⟨[some (.at .me), none], mkR r r.length b k p1 p2 f8⟩) = _
  unfold c_r_undouble; rw [B_next (σ' := ⟨[some (.at .me), vI 0], mkR r r.length b k p1 p2 f8⟩) (by simp [evS, evE, selfIs, binV, ai, AV.isSt, okSet_eq, bindV])]; unfold single
  cases hd : dbl r with
  | false =>
    rw [hd] at hc; refine ⟨(r.length : Int) - (0 : Nat), b, k, ?_⟩; rw [B_ret ((S_true (T_cmp hc (fl' := mkR r r.length b k p1 p2 f8) (y := ai 0) (v := true) (by simp [evE]) rfl)).trans (B_ret (S_ret (v := ab false) (by rw [evE]) rfl)))]; rfl
  | true =>
    rw [hd] at hc
    have h2 : 2 ≤ r.length := by
      unfold dbl at hd
      rcases r with _ | ⟨x, _ | ⟨y, r⟩⟩ <;> simp [List.isPrefixOf] at hd ⊢
    obtain ⟨x, s, rfl⟩ : ∃ x s, r = x :: s := by
      cases r with
      | nil => simp at h2
      | cons x s => exact ⟨x, s, rfl⟩
    rw [B_next ((S_false (T_cmp hc (fl' := mkR (x :: s) (((x :: s).length : Int) - 2) b k p1 p2 f8) (y := ai 0) (v := false) (by simp [evE]) rfl)).trans B_nil)]; rw [B_next (σ' := ⟨[some (.at .me), vI 0], mkR (x :: s) (x :: s).length b k p1 p2 f8⟩) (by simp [evS, evE, selfIs, binV, ai, isPl])]; rw [B_next (σ' := ⟨[some (.at .me), vI 0], mkR (x :: s) (x :: s).length b (x :: s).length p1 p2 f8⟩) (by simp [evS, evE, selfIs, binV, ai, isPl])]
    rw [B_next (σ' := ⟨[some (.at .me), vI 0], mkR (x :: s) (x :: s).length b (x :: s).length p1 p2 f8⟩) (by
      refine (S_false (T_cmp (v := false) (E_fld rfl rfl) (E_fld rfl rfl) ?_)).trans B_nil
      simp [cmpV] <;> omega)]
    rw [B_next (σ' := ⟨[some (.at .me), vI 0], mkR (x :: s) s.length b (x :: s).length p1 p2 f8⟩) (by simp [evS, evE, selfIs, binV, ai, isPl, augV] <;> omega)]; rw [B_next (σ' := ⟨[some (.at .me), vI 0], mkR (x :: s) s.length s.length (x :: s).length p1 p2 f8⟩) (by simp [evS, evE, selfIs, binV, ai, isPl])]
    have hdel := del_R (n := n) (e := [x]) (s := s) (p1 := p1) (p2 := p2) (f8 := f8) hr
    rw [B_next (S_expr (E_callM (i := 0) rfl A_nil rfl rfl hdel))]; refine ⟨s.length, s.length, s.length, ?_⟩; rw [B_ret (S_ret (v := ab true) (by rw [evE]) rfl)]; rfl
end Mine
namespace Mine
abbrev aB (v : Bool) : Option Atom := some (.cst (.bool v))
def Gives (o : Option (AV × FL)) (r : List Nat) (p1 p2 : Int) (f8 : Option Atom) : Prop := ∃ (v : Bool) (c b k : Int), o = some (ab v, mkR r c b k p1 p2 f8)
theorem Gives.mk {o : Option (AV × FL)} {r : List Nat} {p1 p2 : Int} {f8 : Option Atom} {v : Bool} {c b k : Int} (h : o = some (ab v, mkR r c b k p1 p2 f8)) : Gives o r p1 p2 f8 := ⟨v, c, b, k, h⟩
theorem Gives.ret {loc : List (Option AV)} {r : List Nat} {p1 p2 : Int} {f8 : Option Atom} {v : Bool} {c b k : Int} : Gives (retOf (some (⟨loc, mkR r c b k p1 p2 f8⟩, .ret (ab v)))) r p1 p2 f8 := ⟨v, c, b, k, rfl⟩
def shut : List Nat → Bool
  | [] => false
  | x :: _ => !isV x
def shutj : List Nat → Bool
  | [] => false
  | x :: _ => !isVj x
variable {n : Nat} {r e s : List Nat} {b k p1 p2 : Int} {f8 : Option Atom} {Γ : Call} {N : Nat} {loc : List (Option AV)}
theorem idx_R {x : Nat} (hs : (e ++ x :: s).length < 1000) : idxV (.at (.str (tx (e ++ x :: s).reverse))) (.at (.int s.length)) = some (as (chr1 x)) := by
  refine idx_tx (by rw [List.length_reverse]; simp only [small, decide_eq_true_eq]; omega) ?_; rw [List.reverse_append, List.reverse_cons, List.append_assoc, ← List.length_reverse (as := s), List.getElem?_append_right (Nat.le_refl _)]; simp
theorem chr1_ne (x y : Nat) : ((chr1 x : Str) != ⟨#[y]⟩) = (x != y) := by
  have : (⟨#[y]⟩ : Str) = chr1 y := rfl
  rw [this, bne, bne, chr1_inj]
theorem chr1_eq (x y : Nat) : ((chr1 x : Str) == ⟨#[y]⟩) = (x == y) := by
  have : (⟨#[y]⟩ : Str) = chr1 y := rfl
  rw [this, chr1_inj]
theorem T_last {y : Nat} (hs : (e ++ s).length < 1000) : evT tabs Γ (.or (.cons (.cmp .le (.fld 1) (.fld 3)) (.cons (.cmp .ne (.idx (.fld 0) (.bin .sub (.fld 1) (.int 1))) (.str ⟨#[y]⟩)) .nil))) ⟨some (.at .me) :: loc, mkR (e ++ s) s.length b k p1 p2 f8⟩ =
    some (s.head? != some y, mkR (e ++ s) s.length b k p1 p2 f8) := by
  cases s with
  | nil => simp [evT, evE, evOr, selfIs, cmpV, truth, ab]
  | cons x s =>
    have h1 : ¬ (((x :: s).length : Int) ≤ 0) := by simp only [List.length_cons]; omega
    have h2 : (((x :: s).length : Int) - 1) = s.length := by simp only [List.length_cons]; omega
    have h3 := idx_R hs
    have h4 : (some x != some y) = (x != y) := by simp [bne]
    simp only [List.head?_cons, h4]; generalize ((x :: s).length : Int) = c at h1 h2 ⊢; unfold mkR; generalize (e ++ x :: s).reverse = L at h3 ⊢; generalize (e ++ x :: s).length = M; simp [evT, evE, evOr, selfIs, cmpV, truth, ab, ai, as, binV, h1, h2, h3, chr1_ne]
theorem T_R1 {c : Int} {n : Nat} {p1 : Int} (ho : hasOwn ⟨some (.at .me) :: loc, mkR r c b k p1 p2 f8⟩ = false) : evT tabs (cl (n + 1)) (.not (.callM 0 18 .nil)) ⟨some (.at .me) :: loc, mkR r c b k p1 p2 f8⟩ = some (!decide (p1 ≤ c), mkR r c b k p1 p2 f8) :=
  T_not (T_of (E_callM rfl A_nil rfl ho R1_spec))
theorem T_R2 {c : Int} {n : Nat} {p1 : Int} (ho : hasOwn ⟨some (.at .me) :: loc, mkR r c b k p1 p2 f8⟩ = false) : evT tabs (cl (n + 1)) (.not (.callM 0 19 .nil)) ⟨some (.at .me) :: loc, mkR r c b k p1 p2 f8⟩ = some (!decide (p2 ≤ c), mkR r c b k p1 p2 f8) :=
  T_not (T_of (E_callM rfl A_nil rfl ho R2_spec))
theorem T_shut {n : Nat} (hs : (e ++ s).length < 1000) (ho : hasOwn ⟨some (.at .me) :: loc, mkR (e ++ s) s.length b k p1 p2 f8⟩ = false) : ∃ c : Int, evT tabs (cl (n + 1)) (.not (.callM 0 6 (.cons (.cattr (.ofString "g_v")) .nil))) ⟨some (.at .me) :: loc, mkR (e ++ s) s.length b k p1 p2 f8⟩ = some (!shut s, mkR (e ++ s) c b k p1 p2 f8) := by
  cases s with
  | nil => exact ⟨_, T_not (T_of (E_callM rfl (A_cattr at_v) rfl ho out_R_nil))⟩
  | cons x s =>
    refine ⟨((if inSet 230 x = true then (x :: s).length else s.length : Nat) : Int), (T_not (T_of (E_callM rfl (A_cattr at_v) rfl ho (out_R (by rfl) hs)))).trans ?_⟩; rw [set230]; rfl
theorem T_shutj {n : Nat} (hs : (e ++ s).length < 1000) (ho : hasOwn ⟨some (.at .me) :: loc, mkR (e ++ s) s.length b k p1 p2 f8⟩ = false) : ∃ c : Int, evT tabs (cl (n + 1)) (.not (.callM 0 6 (.cons (.cattr (.ofString "g_v_j")) .nil))) ⟨some (.at .me) :: loc, mkR (e ++ s) s.length b k p1 p2 f8⟩ = some (!shutj s, mkR (e ++ s) c b k p1 p2 f8) := by
  cases s with
  | nil => exact ⟨_, T_not (T_of (E_callM rfl (A_cattr at_vj) rfl ho out_R_nil))⟩
  | cons x s =>
    refine ⟨((if inSet 232 x = true then (x :: s).length else s.length : Nat) : Int), (T_not (T_of (E_callM rfl (A_cattr at_vj) rfl ho (out_R (by rfl) hs)))).trans ?_⟩; rw [set232]; rfl
theorem T_val {t : CE} {σ : AS} {fl : FL} {v w : Bool} (h : evT tabs Γ t σ = some (v, fl)) (hv : v = w) : evT tabs Γ t σ = some (w, fl) := hv ▸ h
theorem ret_false {σ : AS} : evB tabs Γ N (.cons (.ret (.bool false)) .nil) σ = some (σ, .ret (ab false)) := B_ret (S_ret (by rw [evE]) rfl)
theorem B_skip {t : CE} {a rest : CB} {σ : AS} {fl : FL} (h : evT tabs Γ t σ = some (false, fl)) : evB tabs Γ N (.cons (.ite t a .nil) rest) σ = evB tabs Γ N rest ⟨σ.loc, fl⟩ := B_next ((S_false h).trans B_nil)
theorem B_quit {t : CE} {rest : CB} {σ : AS} {fl : FL} (h : evT tabs Γ t σ = some (true, fl)) : evB tabs Γ N (.cons (.ite t (.cons (.ret (.bool false)) .nil) .nil) rest) σ = some (⟨σ.loc, fl⟩, .ret (ab false)) := B_ret ((S_true h).trans ret_false)
theorem B_lab {t : CE} {rest : CB} {σ : AS} {fl : FL} {j : Nat} (h : evT tabs Γ t σ = some (true, fl)) : evB tabs Γ N (.cons (.ite t (.cons (.raise j) .nil) .nil) rest) σ = some (⟨σ.loc, fl⟩, .exc j) := B_exc ((S_true h).trans B_raise)
theorem S_cur {c z : Int} {i : Nat} (h : (some (.at .me) :: loc)[i]? = some (vI z)) : evS tabs Γ N (.setf 1 (.bin .sub (.fld 2) (.var i))) ⟨some (.at .me) :: loc, mkR r c b k p1 p2 f8⟩ = some (⟨some (.at .me) :: loc, mkR r ((r.length : Int) - z) b k p1 p2 f8⟩, .next) := by
  rw [evS]; simp [evE, selfIs, h, binV, ai, isPl]
theorem S_ket {c : Int} : evS tabs Γ N (.setf 5 (.fld 1)) ⟨some (.at .me) :: loc, mkR r c b k p1 p2 f8⟩ = some (⟨some (.at .me) :: loc, mkR r c b c p1 p2 f8⟩, .next) := by
  rw [evS]; simp [evE, selfIs, binV, ai, isPl]
theorem S_bra {c : Int} : evS tabs Γ N (.setf 4 (.fld 1)) ⟨some (.at .me) :: loc, mkR r c b k p1 p2 f8⟩ = some (⟨some (.at .me) :: loc, mkR r c c k p1 p2 f8⟩, .next) := by
  rw [evS]; simp [evE, selfIs, binV, ai, isPl]
theorem S_back {c : Int} : evS tabs Γ N (.augf 1 .sub (.int 1)) ⟨some (.at .me) :: loc, mkR r c b k p1 p2 f8⟩ = some (⟨some (.at .me) :: loc, mkR r (c - 1) b k p1 p2 f8⟩, .next) := by
  rw [evS]; simp [evE, selfIs, binV, ai, isPl, augV]
theorem S_v {c : Int} {i : Nat} (ho : okSet i ⟨some (.at .me) :: loc, mkR r c b k p1 p2 f8⟩ = true) : evS tabs Γ N (.assign i (.bin .sub (.fld 2) (.fld 1))) ⟨some (.at .me) :: loc, mkR r c b k p1 p2 f8⟩ = some (⟨(some (.at .me) :: loc).set i (vI ((r.length : Int) - c)), mkR r c b k p1 p2 f8⟩, .next) := by
  rw [evS]; simp [evE, selfIs, binV, ai, AV.isSt, ho, bindV]
def lessE (p : Nat) : List Nat → Option (List Nat)
  | [] => none
  | x :: s => if x == 101 && (decide (p ≤ s.length) && shut s) then some (single s) else none
theorem e_ending {p1 : Nat} (hr : r.length < 1000) : Gives (cl (n + 5) 21 [.at .me] (mkR r r.length b k p1 p2 f8)) ((lessE p1 r).getD r) p1 p2 (aB (lessE p1 r).isSome) := by
  rw [cl_at (F := ⟨1, _, c_r_e_ending⟩) rfl rfl]; show Gives (retOf (evB tabs (cl (n + 4)) 1000 c_r_e_ending ⟨[some (.at .me), none], mkR r r.length b k p1 p2 f8⟩)) _ _ _ _; unfold c_r_e_ending; rw [B_next (σ' := ⟨[some (.at .me), none], mkR r r.length b k p1 p2 (aB false)⟩) (by simp [evS, evE, selfIs, ab, isPl])]; rw [B_next S_ket]
  have hl := T_last (y := 101) (e := []) (s := r) (Γ := cl (n + 4)) (b := b) (k := r.length) (p1 := p1) (p2 := p2) (f8 := aB false) (loc := [none]) hr
  simp only [List.nil_append] at hl
  rcases r with _ | ⟨x, s⟩
  · rw [B_quit hl]
    exact Gives.ret
  by_cases hx : x = 101
  · subst hx
    rw [B_skip (T_val hl (by simp))]; rw [B_next S_back, B_next S_bra]
    have e1 : (((101 :: s).length : Int) - 1) = s.length := by simp
    rw [e1]
    have h2 := T_R1 (n := n + 3) (r := 101 :: s) (c := s.length) (b := s.length) (k := (101 :: s).length) (p1 := p1) (p2 := p2) (f8 := aB false) (loc := [none]) rfl
    by_cases hp : p1 ≤ s.length
    · rw [B_skip (T_val h2 (by simp [hp]))]
      rw [B_next (σ' := ⟨[some (.at .me), vI (((101 :: s).length : Int) - s.length)], mkR (101 :: s) s.length s.length (101 :: s).length p1 p2 (aB false)⟩) (S_v rfl)]; obtain ⟨c, h3⟩ := T_shut (n := n + 3) (e := [101]) (s := s) (b := s.length) (k := (101 :: s).length) (p1 := p1) (p2 := p2) (f8 := aB false) (loc := [vI (((101 :: s).length : Int) - s.length)]) hr rfl; simp only [List.cons_append, List.nil_append] at h3
      cases hsh : shut s with
      | false =>
        rw [B_quit (T_val h3 (by rw [hsh]; rfl))]
        have hv : lessE p1 (101 :: s) = none := by simp [lessE, hp, hsh]
        rw [hv]; exact Gives.ret
      | true =>
        rw [B_skip (T_val h3 (by rw [hsh]; rfl))]; rw [B_next (S_cur rfl)]
        have e2 : (((101 :: s).length : Int) - (((101 :: s).length : Int) - s.length)) = s.length := by omega
        rw [e2]
        have hdel := del_R (n := n + 1) (e := [101]) (s := s) (p1 := p1) (p2 := p2) (f8 := aB false) hr
        simp only [List.cons_append, List.nil_append] at hdel; rw [B_next (S_expr (E_callM (i := 0) rfl A_nil rfl rfl hdel))]; rw [B_next (σ' := ⟨[some (.at .me), vI (((101 :: s).length : Int) - s.length)], mkR s s.length s.length s.length p1 p2 (aB true)⟩) (by simp [evS, evE, selfIs, ab, isPl])]; obtain ⟨c', b', k', h4⟩ := undouble (n := n) (r := s) (b := s.length) (k := s.length) (p1 := p1) (p2 := p2) (f8 := aB true) (by simp only [List.length_cons] at hr; omega)
        have h5 : evE tabs (cl (n + 4)) (.callM 0 20 .nil) ⟨[some (.at .me), vI (((101 :: s).length : Int) - s.length)], mkR s s.length s.length s.length p1 p2 (aB true)⟩ = some (ab (dbl s), mkR (single s) c' b' k' p1 p2 (aB true)) := E_callM rfl A_nil rfl rfl h4
        rw [B_ret (S_ret h5 rfl)]
        have hv : lessE p1 (101 :: s) = some (single s) := by simp [lessE, hp, hsh]
        rw [hv]; exact Gives.ret
    · rw [B_quit (T_val h2 (by simp [hp]))]
      have hv : lessE p1 (101 :: s) = none := by simp [lessE, hp]
      rw [hv]; exact Gives.ret
  · rw [B_quit (T_val hl (by simp [hx]))]
    have hv : lessE p1 (x :: s) = none := by simp [lessE, hx]
    rw [hv]; exact Gives.ret
def gem (s : List Nat) : Bool := [109, 101, 103].isPrefixOf s
def lessEn (p : Nat) (r s : List Nat) : List Nat := if decide (p ≤ s.length) && (shut s && !gem s) then single s else r
theorem en_ending {p1 : Nat} (hr : (e ++ s).length < 1000) : Gives (cl (n + 5) 22 [.at .me] (mkR (e ++ s) s.length s.length (e ++ s).length p1 p2 f8)) (lessEn p1 (e ++ s) s) p1 p2 f8 := by
  rw [cl_at (F := ⟨1, _, c_r_en_ending⟩) rfl rfl]; show Gives (retOf (evB tabs (cl (n + 4)) 1000 c_r_en_ending ⟨[some (.at .me), none], mkR (e ++ s) s.length s.length (e ++ s).length p1 p2 f8⟩)) _ _ _ _; unfold c_r_en_ending
  have h2 := T_R1 (n := n + 3) (r := e ++ s) (c := s.length) (b := s.length) (k := (e ++ s).length) (p1 := p1) (p2 := p2) (f8 := f8) (loc := [none]) rfl
  by_cases hp : p1 ≤ s.length
  · rw [B_skip (T_val h2 (by simp [hp]))]
    rw [B_next (σ' := ⟨[some (.at .me), vI (((e ++ s).length : Int) - s.length)], mkR (e ++ s) s.length s.length (e ++ s).length p1 p2 f8⟩) (S_v rfl)]; obtain ⟨c, h3⟩ := T_shut (n := n + 3) (e := e) (s := s) (b := s.length) (k := (e ++ s).length) (p1 := p1) (p2 := p2) (f8 := f8) (loc := [vI (((e ++ s).length : Int) - s.length)]) hr rfl
    cases hsh : shut s with
    | false =>
      rw [B_quit (T_val h3 (by rw [hsh]; rfl))]
      have hv : lessEn p1 (e ++ s) s = e ++ s := by simp [lessEn, hsh]
      rw [hv]; exact Gives.ret
    | true =>
      rw [B_skip (T_val h3 (by rw [hsh]; rfl))]; rw [B_next (S_cur rfl)]
      have e2 : (((e ++ s).length : Int) - (((e ++ s).length : Int) - s.length)) = s.length := by omega
      rw [e2]
      have h5 := eq_R (n := n + 3) (e := e) (s := s) (b := s.length) (k := (e ++ s).length) (p1 := p1) (p2 := p2) (f8 := f8) (y := [103, 101, 109]) hr (by decide)
      have h6 : evT tabs (cl (n + 4)) (.not (.callM 0 7 (.cons (.str ⟨#[103, 101, 109]⟩) .nil))) ⟨[some (.at .me), vI (((e ++ s).length : Int) - s.length)], mkR (e ++ s) s.length s.length (e ++ s).length p1 p2 f8⟩ = _ := T_not (T_of (E_callM (i := 0) rfl A_str rfl rfl h5))
      have h7 : [103, 101, 109].reverse.isPrefixOf s = gem s := rfl
      rw [h7] at h6
      cases hg : gem s with
      | true =>
        rw [hg] at h6; rw [B_ret (S_try ((B_skip h6).trans ret_false) (by intro j q; cases q))]
        have hv : lessEn p1 (e ++ s) s = e ++ s := by simp [lessEn, hg]
        rw [hv]; exact Gives.ret
      | false =>
        rw [hg] at h6; rw [B_next (S_tryx (B_lab h6))]; rw [B_next (S_expr (E_callM (i := 0) rfl A_nil rfl rfl (del_R (n := n + 1) (e := e) (s := s) hr)))]; obtain ⟨c', b', k', h4⟩ := undouble (n := n) (r := s) (b := s.length) (k := s.length) (p1 := p1) (p2 := p2) (f8 := f8) (by simp only [List.length_append] at hr; omega)
        have h5 : evE tabs (cl (n + 4)) (.callM 0 20 .nil) ⟨[some (.at .me), vI (((e ++ s).length : Int) - s.length)], mkR s s.length s.length s.length p1 p2 f8⟩ = some (ab (dbl s), mkR (single s) c' b' k' p1 p2 f8) := E_callM rfl A_nil rfl rfl h4
        rw [B_ret (S_ret h5 rfl)]
        have hv : lessEn p1 (e ++ s) s = single s := by simp [lessEn, hp, hsh, hg]
        rw [hv]; exact Gives.ret
  · rw [B_quit (T_val h2 (by simp [hp]))]
    have hv : lessEn p1 (e ++ s) s = e ++ s := by simp [lessEn, hp]
    rw [hv]; exact Gives.ret
end Mine
namespace Mine
def Tr (j : Nat) (o : Option (AS × Out)) (L : List (Option AV)) (r : List Nat) (p1 p2 : Int) (f8 : Option Atom) : Prop :=
  ∃ c b k : Int, o = some (⟨L, mkR r c b k p1 p2 f8⟩, .next) ∨ o = some (⟨L, mkR r c b k p1 p2 f8⟩, .exc j)
theorem Tr.nx {j : Nat} {L : List (Option AV)} {r : List Nat} {p1 p2 : Int} {f8 : Option Atom} {c b k : Int} : Tr j (some (⟨L, mkR r c b k p1 p2 f8⟩, .next)) L r p1 p2 f8 := ⟨c, b, k, .inl rfl⟩
theorem Tr.ex {j : Nat} {L : List (Option AV)} {r : List Nat} {p1 p2 : Int} {f8 : Option Atom} {c b k : Int} : Tr j (some (⟨L, mkR r c b k p1 p2 f8⟩, .exc j)) L r p1 p2 f8 := ⟨c, b, k, .inr rfl⟩
section
variable {Γ : Call} {N : Nat} {σ : AS}
theorem Tr.try {j : Nat} {B : CB} {L : List (Option AV)} {r : List Nat} {p1 p2 : Int} {f8 : Option Atom} (h : Tr j (evB tabs Γ N B σ) L r p1 p2 f8) : ∃ c b k : Int, evS tabs Γ N (.try j B) σ = some (⟨L, mkR r c b k p1 p2 f8⟩, .next) := by
  obtain ⟨c, b, k, h | h⟩ := h
  · exact ⟨c, b, k, S_try h (by intro j q; cases q)⟩
  · exact ⟨c, b, k, S_tryx h⟩
theorem T_veq {T : Tabs} {i : Nat} {z m : Int} (h : σ.loc[i]? = some (vI z)) : evT T Γ (.cmp .eq (.var i) (.int m)) σ = some (z == m, σ.fl) := by
  simp [evT, evE, cmpV, truth, ab, ai, h]
theorem T_yes {T : Tabs} {i : Nat} {m : Int} (h : σ.loc[i]? = some (vI m)) : evT T Γ (.cmp .eq (.var i) (.int m)) σ = some (true, σ.fl) := by
  rw [T_veq h]; simp
theorem T_no {T : Tabs} {i : Nat} {z m : Int} (h : σ.loc[i]? = some (vI z)) (hz : z ≠ m) : evT T Γ (.cmp .eq (.var i) (.int m)) σ = some (false, σ.fl) := by
  rw [T_veq h, beq_eq_false_iff_ne.mpr hz]
end
theorem T_shutj' {n : Nat} {e s : List Nat} {b k p1 p2 : Int} {f8 : Option Atom} {loc : List (Option AV)} (hs : (e ++ s).length < 1000) (ho : hasOwn ⟨some (.at .me) :: loc, mkR (e ++ s) s.length b k p1 p2 f8⟩ = false) : ∃ c : Nat, c ≤ s.length ∧ evT tabs (cl (n + 1)) (.not (.callM 0 6 (.cons (.cattr (.ofString "g_v_j")) .nil))) ⟨some (.at .me) :: loc, mkR (e ++ s) s.length b k p1 p2 f8⟩ = some (!shutj s, mkR (e ++ s) c b k p1 p2 f8) := by
  cases s with
  | nil => exact ⟨0, Nat.le_refl _, T_not (T_of (E_callM rfl (A_cattr at_vj) rfl ho out_R_nil))⟩
  | cons x s =>
    refine ⟨(if inSet 232 x = true then (x :: s).length else s.length : Nat), ?_, (T_not (T_of (E_callM rfl (A_cattr at_vj) rfl ho (out_R (by rfl) hs)))).trans ?_⟩
    · split <;> simp
    rw [set232]; rfl
theorem del_R' {n : Nat} {e s : List Nat} {p1 p2 : Int} {f8 : Option Atom} {c : Nat} (he : e ≠ []) (hc : c ≤ s.length) (h : (e ++ s).length < 1000) : cl (n + 3) 12 [.at .me] (mkR (e ++ s) c s.length (e ++ s).length p1 p2 f8) = some (.at (.cst .none), mkR s c s.length s.length p1 p2 f8) := by
  have := slice_del_spec (n := n) (l := (e ++ s).reverse) (lb := 0) (f6 := aI p1) (f7 := aI p2) (f8 := f8) (c := c) (b := s.length) (k := (e ++ s).reverse.length) (by rw [List.length_reverse]; exact h) (by simp) (Nat.le_refl _)
  rw [take_es] at this; rw [List.drop_length, List.append_nil] at this; simp only [List.length_reverse] at this; refine this.trans ?_
  have h0 : 0 < e.length := List.length_pos_iff.mpr he
  have h1 : moved c s.length (e ++ s).length (0 - (((e ++ s).length : Int) - s.length)) = c := by
    unfold moved; simp only [List.length_append]
    split
    · omega
    · split
      · omega
      · rfl
  have h2 : ((e ++ s).length : Int) + (0 - (((e ++ s).length : Int) - s.length)) = s.length := by omega
  rw [h1, h2]
theorem pre_ex {e r : List Nat} (h : e.isPrefixOf r = true) : ∃ s, r = e ++ s := by
  obtain ⟨s, hs⟩ := List.isPrefixOf_iff_prefix.mp h; exact ⟨s, hs.symm⟩
theorem end3_split (r : List Nat) : ∃ e s, r = e ++ s ∧ (end3 r).1 = e.length ∧ ((end3 r).2 = 0 ∨ (e ≠ [] ∧ ((end3 r).2 = 1 ∨ (end3 r).2 = 2 ∨ (end3 r).2 = 3))) := by
  unfold end3
  split
  · rename_i h; obtain ⟨s, rfl⟩ := pre_ex h; exact ⟨_, s, rfl, rfl, .inr ⟨by simp, by simp⟩⟩
  split
  · rename_i h; obtain ⟨s, rfl⟩ := pre_ex h; exact ⟨_, s, rfl, rfl, .inr ⟨by simp, by simp⟩⟩
  split
  · rename_i h; obtain ⟨s, rfl⟩ := pre_ex h; exact ⟨_, s, rfl, rfl, .inr ⟨by simp, by simp⟩⟩
  split
  · rename_i h; obtain ⟨s, rfl⟩ := pre_ex h; exact ⟨_, s, rfl, rfl, .inr ⟨by simp, by simp⟩⟩
  split
  · rename_i h; obtain ⟨s, rfl⟩ := pre_ex h; exact ⟨_, s, rfl, rfl, .inr ⟨by simp, by simp⟩⟩
  exact ⟨[], r, rfl, rfl, .inl rfl⟩
theorem end4_split (r : List Nat) : ∃ e s, r = e ++ s ∧ (end4 r).1 = e.length ∧ ((end4 r).2 = 0 ∨ (e ≠ [] ∧ ((end4 r).2 = 1 ∨ (end4 r).2 = 2 ∨ (end4 r).2 = 3 ∨ (end4 r).2 = 4 ∨ (end4 r).2 = 5))) := by
  unfold end4
  split
  · rename_i h; obtain ⟨s, rfl⟩ := pre_ex h; exact ⟨_, s, rfl, rfl, .inr ⟨by simp, by simp⟩⟩
  split
  · rename_i h; obtain ⟨s, rfl⟩ := pre_ex h; exact ⟨_, s, rfl, rfl, .inr ⟨by simp, by simp⟩⟩
  split
  · rename_i h; obtain ⟨s, rfl⟩ := pre_ex h; exact ⟨_, s, rfl, rfl, .inr ⟨by simp, by simp⟩⟩
  split
  · rename_i h; obtain ⟨s, rfl⟩ := pre_ex h; exact ⟨_, s, rfl, rfl, .inr ⟨by simp, by simp⟩⟩
  split
  · rename_i h; obtain ⟨s, rfl⟩ := pre_ex h; exact ⟨_, s, rfl, rfl, .inr ⟨by simp, by simp⟩⟩
  split
  · rename_i h; obtain ⟨s, rfl⟩ := pre_ex h; exact ⟨_, s, rfl, rfl, .inr ⟨by simp, by simp⟩⟩
  exact ⟨[], r, rfl, rfl, .inl rfl⟩
def step1 (p : Nat) (r : List Nat) : List Nat :=
  if (end3 r).2 = 0 then r else if (end3 r).2 = 1 then (if p ≤ (r.drop (end3 r).1).length then [100, 105, 101, 104] ++ r.drop (end3 r).1 else r)
  else if (end3 r).2 = 2 then lessEn p r (r.drop (end3 r).1)
  else if decide (p ≤ (r.drop (end3 r).1).length) && shutj (r.drop (end3 r).1) then r.drop (end3 r).1 else r
abbrev kB1 : CB := (.cons (.setf 5 (.fld 1)) (.cons (.assign 2 (.callM 0 9 (.cons (.cattr (.ofString "a_3")) .nil))) (.cons (.ite (.cmp .eq (.var 2) (.int 0)) (.cons (.raise 0) .nil) .nil) (.cons (.setf 4 (.fld 1)) (.cons (.ite (.cmp .eq (.var 2) (.int 1)) (.cons (.ite (.not (.callM 0 18 .nil)) (.cons (.raise 0) .nil) .nil) (.cons (.expr (.callM 0 11 (.cons (.str ⟨#[104, 101, 105, 100]⟩) .nil))) .nil)) (.cons (.ite (.cmp .eq (.var 2) (.int 2)) (.cons (.ite (.not (.callM 0 22 .nil)) (.cons (.raise 0) .nil) .nil) .nil) (.cons (.ite (.not (.callM 0 18 .nil)) (.cons (.raise 0) .nil) .nil) (.cons (.ite (.not (.callM 0 6 (.cons (.cattr (.ofString "g_v_j")) .nil))) (.cons (.raise 0) .nil) .nil) (.cons (.expr (.callM 0 12 .nil)) .nil)))) .nil)) .nil)))))
variable {n : Nat} {r : List Nat} {b k p2 : Int} {f8 : Option Atom} {p1 : Nat} {N : Nat}
theorem block1 (hr : r.length < 900) : ∃ z : Int, Tr 0 (evB tabs (cl (n + 5)) 1000 kB1 ⟨[some (.at .me), vI 0, none, none, none, none, none, none, none], mkR r r.length b k p1 p2 f8⟩) [some (.at .me), vI 0, vI z, none, none, none, none, none, none] (step1 p1 r) p1 p2 f8 := by
  obtain ⟨e, s, hes, hl, hc⟩ := end3_split r
  have hb := bwd_R (n := n + 4) (e := []) (s := r) (b := b) (k := r.length) (p1 := p1) (p2 := p2) (f8 := f8) (by simp; omega) tab3 (by decide) (fa_3 r)
  simp only [List.nil_append] at hb
  have h0 : evE tabs (cl (n + 5)) (.callM 0 9 (.cons (.cattr (.ofString "a_3")) .nil)) ⟨[some (.at .me), vI 0, none, none, none, none, none, none, none], mkR r r.length b r.length p1 p2 f8⟩ = _ := E_callM rfl (A_cattr at_a3) rfl rfl hb
  obtain ⟨z, hz⟩ : ∃ z, z = (end3 r).2 := ⟨_, rfl⟩
  have hd : r.drop (end3 r).1 = s := by
    rw [hl]
    conv => lhs; rw [hes]
    rw [List.drop_left]
  have hcur : ((r.length : Int) - (end3 r).1) = s.length := by
    rw [hl]
    have := congrArg List.length hes
    rw [List.length_append] at this; omega
  rw [hcur, ← hz] at h0; refine ⟨z, ?_⟩; unfold step1; rw [← hz] at hc ⊢; rw [hd]; obtain ⟨L, hL⟩ : ∃ L : List (Option AV), L = [some (.at .me), vI 0, vI z, none, none, none, none, none, none] := ⟨_, rfl⟩
  have hL2 : ∀ fl, (⟨L, fl⟩ : AS).loc[2]? = some (vI z) := fun fl => by rw [hL]; rfl
  rw [B_next S_ket, B_next (σ' := ⟨L, mkR r s.length b r.length p1 p2 f8⟩) ((S_assign h0 rfl rfl).trans (by rw [hL]; rfl)), ← hL]
  rcases hc with h | ⟨hne, hc⟩
  · rw [if_pos h]
    subst h; rw [B_lab (T_yes (hL2 _))]; exact Tr.ex
  rcases hc with h | h | h
  · subst h
    rw [B_skip (T_no (hL2 _) (by decide))]; subst hL; rw [B_next S_bra]
    have h2 := T_R1 (n := n + 4) (r := r) (c := s.length) (b := s.length) (k := r.length) (p1 := p1) (p2 := p2) (f8 := f8) (loc := [vI 0, vI 1, none, none, none, none, none, none]) rfl
    rw [if_neg (by decide), if_pos rfl]
    by_cases hp : p1 ≤ s.length
    · rw [if_pos hp]
      rw [B_next (σ' := ⟨[some (.at .me), vI 0, vI 1, none, none, none, none, none, none], mkR ([100, 105, 101, 104] ++ s) s.length s.length ((s.length : Int) + 4) p1 p2 f8⟩) ?_, B_nil]
      · exact Tr.nx
      refine (S_true (T_yes rfl)).trans ((B_skip (T_val h2 (by simp [hp]))).trans ?_)
      have hf := from_R (n := n + 3) (e := e) (s := s) (p1 := p1) (p2 := p2) (f8 := f8) (y := [104, 101, 105, 100]) hne (by rw [← hes]; simp; omega)
      rw [← hes] at hf; exact (B_next (S_expr (E_callM rfl A_str rfl rfl hf))).trans B_nil
    · rw [if_neg hp]
      rw [B_exc ((S_true (T_yes rfl)).trans (B_lab (T_val h2 (by simp [hp]))))]; exact Tr.ex
  · subst h
    rw [B_skip (T_no (hL2 _) (by decide))]; subst hL; rw [B_next S_bra]; rw [if_neg (by decide), if_neg (by decide), if_pos rfl]; obtain ⟨v, c', b', k', he⟩ := en_ending (n := n) (e := e) (s := s) (p1 := p1) (p2 := p2) (f8 := f8) (by rw [← hes]; omega); rw [← hes] at he
    have h3 : evT tabs (cl (n + 5)) (.not (.callM 0 22 .nil)) ⟨[some (.at .me), vI 0, vI 2, none, none, none, none, none, none], mkR r s.length s.length r.length p1 p2 f8⟩ = some (!v, mkR (lessEn p1 r s) c' b' k' p1 p2 f8) := T_not (T_of (E_callM rfl A_nil rfl rfl he))
    cases v with
    | true =>
      rw [B_next ((S_false (T_no rfl (by decide))).trans ((B_next ((S_true (T_yes rfl)).trans ((B_skip h3).trans B_nil))).trans B_nil)), B_nil]; exact Tr.nx
    | false =>
      rw [B_exc ((S_false (T_no rfl (by decide))).trans (B_exc ((S_true (T_yes rfl)).trans (B_lab h3))))]; exact Tr.ex
  · subst h
    rw [B_skip (T_no (hL2 _) (by decide))]; subst hL; rw [B_next S_bra]
    have h2 := T_R1 (n := n + 4) (r := r) (c := s.length) (b := s.length) (k := r.length) (p1 := p1) (p2 := p2) (f8 := f8) (loc := [vI 0, vI 3, none, none, none, none, none, none]) rfl
    rw [if_neg (by decide), if_neg (by decide), if_neg (by decide)]
    by_cases hp : p1 ≤ s.length
    · obtain ⟨c, hc, h3⟩ := T_shutj' (n := n + 4) (e := e) (s := s) (b := s.length) (k := r.length) (p1 := p1) (p2 := p2) (f8 := f8) (loc := [vI 0, vI 3, none, none, none, none, none, none]) (by rw [← hes]; omega) rfl
      rw [← hes] at h3
      cases hsh : shutj s with
      | false =>
        rw [hsh] at h3; rw [B_exc ((S_false (T_no rfl (by decide))).trans (B_exc ((S_false (T_no rfl (by decide))).trans ((B_skip (T_val h2 (by simp [hp]))).trans (B_lab h3)))))]; simp only [Bool.and_false, Bool.false_eq_true, if_false]; exact Tr.ex
      | true =>
        rw [hsh] at h3
        have hdel := del_R' (n := n + 2) (e := e) (s := s) (c := c) (p1 := p1) (p2 := p2) (f8 := f8) hne hc (by rw [← hes]; omega)
        rw [← hes] at hdel; rw [B_next ((S_false (T_no rfl (by decide))).trans ((B_next ((S_false (T_no rfl (by decide))).trans ((B_skip (T_val h2 (by simp [hp]))).trans ((B_skip h3).trans ((B_next (S_expr (E_callM rfl A_nil rfl rfl hdel))).trans B_nil))))).trans B_nil)), B_nil]; rw [if_pos (by simp [hp])]; exact Tr.nx
    · rw [B_exc ((S_false (T_no rfl (by decide))).trans (B_exc ((S_false (T_no rfl (by decide))).trans (B_lab (T_val h2 (by simp [hp]))))))]
      rw [if_neg (by simp [hp])]; exact Tr.ex
end Mine
namespace Mine
variable {n : Nat} {r e s : List Nat} {b k p2 : Int} {f8 : Option Atom} {p1 : Nat} {N : Nat} {loc : List (Option AV)} {Γ : Call}
theorem hasOwn_eq (σ : AS) : hasOwn σ = σ.loc.any fun o => !okv o := by
  unfold hasOwn
  congr 1
  funext o
  cases o with
  | none => rfl
  | some v => cases v <;> rfl
abbrev lastIs (y j1 j0 : Nat) : CS := .try j1 (.cons (.ite (.or (.cons (.cmp .le (.fld 1) (.fld 3)) (.cons (.cmp .ne (.idx (.fld 0) (.bin .sub (.fld 1) (.int 1))) (.str ⟨#[y]⟩)) .nil))) (.cons (.raise j1) .nil) .nil) (.cons (.augf 1 .sub (.int 1)) (.cons (.raise j0) .nil)))
theorem last_no {y j1 j0 : Nat} {p1 : Int} (hs : (e ++ s).length < 1000) (hy : s.head? ≠ some y) : evS tabs Γ N (lastIs y j1 j0) ⟨some (.at .me) :: loc, mkR (e ++ s) s.length b k p1 p2 f8⟩ = some (⟨some (.at .me) :: loc, mkR (e ++ s) s.length b k p1 p2 f8⟩, .next) :=
  S_tryx (B_lab (T_val (T_last hs) (by simpa using hy)))
theorem last_yes {y j1 j0 : Nat} {p1 : Int} (hs : (e ++ s).length < 1000) (hy : s.head? = some y) (hj : ¬ labA j0 = labA j1) : evS tabs Γ N (lastIs y j1 j0) ⟨some (.at .me) :: loc, mkR (e ++ s) s.length b k p1 p2 f8⟩ = some (⟨some (.at .me) :: loc, mkR (e ++ s) ((s.length : Int) - 1) b k p1 p2 f8⟩, .exc j0) :=
  S_tryp ((B_skip (T_val (T_last hs) (by simp [hy]))).trans ((B_next S_back).trans B_raise)) hj
theorem T_eqs {n : Nat} {p1 : Int} {y : List Nat} {x : Str} (hx : x = tx y) (hs : (e ++ s).length < 1000) (hy : y.length < 1000) (ho : hasOwn ⟨some (.at .me) :: loc, mkR (e ++ s) s.length b k p1 p2 f8⟩ = false) : evT tabs (cl (n + 1)) (.not (.callM 0 7 (.cons (.str x) .nil))) ⟨some (.at .me) :: loc, mkR (e ++ s) s.length b k p1 p2 f8⟩ =
    some (!y.reverse.isPrefixOf s, mkR (e ++ s) (if y.reverse.isPrefixOf s then (s.length : Int) - y.length else s.length) b k p1 p2 f8) := by
  subst hx; exact T_not (T_of (E_callM rfl A_str rfl ho (eq_R hs hy)))
def step3 (p q : Nat) (r : List Nat) : List Nat :=
  if [100, 105, 101, 104].isPrefixOf r then (if decide (q ≤ (r.drop 4).length) && (r.drop 4).head? != some 99 then (if [110, 101].isPrefixOf (r.drop 4) then lessEn p (r.drop 4) (r.drop 6) else r.drop 4) else r) else r
abbrev kB3 : CB := (.cons (.setf 5 (.fld 1)) (.cons (.ite (.not (.callM 0 7 (.cons (.str ⟨#[104, 101, 105, 100]⟩) .nil))) (.cons (.raise 0) .nil) .nil) (.cons (.setf 4 (.fld 1)) (.cons (.ite (.not (.callM 0 19 .nil)) (.cons (.raise 0) .nil) .nil) (.cons (lastIs 99 1 0) (.cons (.expr (.callM 0 12 .nil)) (.cons (.setf 5 (.fld 1)) (.cons (.ite (.not (.callM 0 7 (.cons (.str ⟨#[101, 110]⟩) .nil))) (.cons (.raise 0) .nil) .nil) (.cons (.setf 4 (.fld 1)) (.cons (.ite (.not (.callM 0 22 .nil)) (.cons (.raise 0) .nil) .nil) .nil))))))))))
theorem block3 {q : Nat} (hr : r.length < 900) (ho : ∀ fl, hasOwn ⟨some (.at .me) :: loc, fl⟩ = false) : Tr 0 (evB tabs (cl (n + 5)) 1000 kB3 ⟨some (.at .me) :: loc, mkR r r.length b k p1 q f8⟩) (some (.at .me) :: loc) (step3 p1 q r) p1 q f8 := by
  rw [B_next S_ket]
  have h1 := T_eqs (n := n + 4) (e := []) (s := r) (b := b) (k := r.length) (p1 := p1) (p2 := q) (f8 := f8) (loc := loc) (x := ⟨#[104, 101, 105, 100]⟩) (y := [104, 101, 105, 100]) rfl (by simp; omega) (by decide) (ho _)
  simp only [List.nil_append] at h1
  have hrv : [104, 101, 105, 100].reverse = [100, 105, 101, 104] := rfl
  rw [hrv] at h1; unfold step3
  cases hp : [100, 105, 101, 104].isPrefixOf r with
  | false =>
    rw [hp] at h1; rw [B_lab h1]; exact Tr.ex
  | true =>
    rw [hp] at h1; rw [B_skip h1]; obtain ⟨s, hs⟩ := pre_ex hp
    have hd : r.drop 4 = s := by rw [hs]; rfl
    have hd6 : r.drop 6 = s.drop 2 := by rw [hs]; rfl
    have hcur : (if true then (r.length : Int) - [104, 101, 105, 100].length else r.length) = s.length := by rw [hs]; simp; omega
    have hlen : s.length < 896 := by have := congrArg List.length hs; simp at this; omega
    rw [hcur, hd, hd6, if_pos rfl]; rw [B_next S_bra]
    have h2 := T_R2 (n := n + 4) (r := r) (c := s.length) (b := s.length) (k := r.length) (p1 := p1) (p2 := q) (f8 := f8) (loc := loc) (ho _)
    by_cases hq : q ≤ s.length
    · rw [B_skip (T_val h2 (by simp [hq]))]
      by_cases hc : s.head? = some 99
      · have h3 := last_yes (Γ := cl (n + 5)) (N := 1000) (e := [100, 105, 101, 104]) (s := s) (b := s.length) (k := r.length) (p1 := p1) (p2 := q) (f8 := f8) (loc := loc) (y := 99) (j1 := 1) (j0 := 0) (by simp; omega) hc (by decide)
        rw [← hs] at h3; rw [B_exc h3, if_neg (by simp [hc])]; exact Tr.ex
      · have h3 := last_no (Γ := cl (n + 5)) (N := 1000) (e := [100, 105, 101, 104]) (s := s) (b := s.length) (k := r.length) (p1 := p1) (p2 := q) (f8 := f8) (loc := loc) (y := 99) (j1 := 1) (j0 := 0) (by simp; omega) hc
        rw [← hs] at h3; rw [B_next h3, if_pos (by simp [hc, hq])]
        have hdel := del_R (n := n + 2) (e := [100, 105, 101, 104]) (s := s) (p1 := p1) (p2 := q) (f8 := f8) (by simp; omega)
        rw [← hs] at hdel; rw [B_next (S_expr (E_callM rfl A_nil rfl (ho _) hdel))]; rw [B_next S_ket]
        have h4 := T_eqs (n := n + 4) (e := []) (s := s) (b := s.length) (k := s.length) (p1 := p1) (p2 := q) (f8 := f8) (loc := loc) (x := ⟨#[101, 110]⟩) (y := [101, 110]) rfl (by simp; omega) (by decide) (ho _)
        simp only [List.nil_append] at h4
        have hrv2 : [101, 110].reverse = [110, 101] := rfl
        rw [hrv2] at h4
        cases hp2 : [110, 101].isPrefixOf s with
        | false =>
          rw [hp2] at h4; rw [B_lab h4]; exact Tr.ex
        | true =>
          rw [hp2] at h4; rw [B_skip h4]; obtain ⟨t, ht⟩ := pre_ex hp2
          have hd2 : s.drop 2 = t := by rw [ht]; rfl
          have hcur2 : (if true then (s.length : Int) - [101, 110].length else s.length) = t.length := by rw [ht]; simp; omega
          rw [hcur2, hd2, if_pos rfl, B_next S_bra]; obtain ⟨v, c', b', k', he⟩ := en_ending (n := n) (e := [110, 101]) (s := t) (p1 := p1) (p2 := q) (f8 := f8) (by rw [← ht]; omega); rw [← ht] at he
          have h5 : evT tabs (cl (n + 5)) (.not (.callM 0 22 .nil)) ⟨some (.at .me) :: loc, mkR s t.length t.length s.length p1 q f8⟩ = some (!v, mkR (lessEn p1 s t) c' b' k' p1 q f8) := T_not (T_of (E_callM rfl A_nil rfl (ho _) he))
          cases v with
          | true => rw [B_skip h5, B_nil]; exact Tr.nx
          | false => rw [B_lab h5]; exact Tr.ex
    · rw [B_lab (T_val h2 (by simp [hq])), if_neg (by simp [hq])]
      exact Tr.ex
def dblV (s : List Nat) : Bool := (end5 s).2 != 0
def step5 : List Nat → List Nat
  | x :: a :: t => if !isVI x && (dblV (a :: t) && shut (t.drop 1)) then x :: t else x :: a :: t
  | r => r
theorem end5_split (r : List Nat) : (∃ a s, r = a :: a :: s ∧ end5 r = (2, -1)) ∨ end5 r = (0, 0) := by
  unfold end5
  split
  · rename_i h; obtain ⟨s, rfl⟩ := pre_ex h; exact .inl ⟨_, s, rfl, rfl⟩
  split
  · rename_i h; obtain ⟨s, rfl⟩ := pre_ex h; exact .inl ⟨_, s, rfl, rfl⟩
  split
  · rename_i h; obtain ⟨s, rfl⟩ := pre_ex h; exact .inl ⟨_, s, rfl, rfl⟩
  split
  · rename_i h; obtain ⟨s, rfl⟩ := pre_ex h; exact .inl ⟨_, s, rfl, rfl⟩
  exact .inr rfl
abbrev kB5 : CB := (.cons (.ite (.not (.callM 0 6 (.cons (.cattr (.ofString "g_v_I")) .nil))) (.cons (.raise 0) .nil) .nil) (.cons (.assign 8 (.bin .sub (.fld 2) (.fld 1))) (.cons (.ite (.cmp .eq (.callM 0 9 (.cons (.cattr (.ofString "a_5")) .nil)) (.int 0)) (.cons (.raise 0) .nil) .nil) (.cons (.ite (.not (.callM 0 6 (.cons (.cattr (.ofString "g_v")) .nil))) (.cons (.raise 0) .nil) .nil) (.cons (.setf 1 (.bin .sub (.fld 2) (.var 8))) (.cons (.setf 5 (.fld 1)) (.cons (.ite (.cmp .le (.fld 1) (.fld 3)) (.cons (.raise 0) .nil) .nil) (.cons (.augf 1 .sub (.int 1)) (.cons (.setf 4 (.fld 1)) (.cons (.expr (.callM 0 12 .nil)) .nil))))))))))
theorem del_mid {x a : Nat} {t : List Nat} {p1 : Int} (h : t.length < 900) : cl (n + 3) 12 [.at .me] (mkR (x :: a :: t) t.length t.length ((t.length : Int) + 1) p1 p2 f8) = some (.at (.cst .none), mkR (x :: t) t.length t.length t.length p1 p2 f8) := by
  have := slice_del_spec (n := n) (l := (x :: a :: t).reverse) (lb := 0) (f6 := aI p1) (f7 := aI p2) (f8 := f8) (c := t.length) (b := t.length) (k := t.length + 1) (by rw [List.length_reverse]; simp; omega) (by simp) (by simp)
  have e1 : ((x :: a :: t).reverse).take t.length = t.reverse := take_es [x, a] t
  have e2 : ((x :: a :: t).reverse).drop (t.length + 1) = [x] := drop_es [x] (a :: t)
  rw [e1, e2] at this
  have e3 : t.reverse ++ [x] = (x :: t).reverse := by simp
  rw [e3] at this; simp only [List.length_reverse] at this
  have h1 : moved t.length t.length (t.length + 1) (0 - (((t.length + 1 : Nat) : Int) - t.length)) = t.length := by
    unfold moved; rw [if_neg (by omega), if_neg (by omega)]
  have h2 : ((x :: a :: t).length : Int) + (0 - (((t.length + 1 : Nat) : Int) - t.length)) = (x :: t).length := by simp only [List.length_cons]; omega
  rw [h1, h2] at this; exact this
theorem block5 {x2 x6 : Option AV} (o2 : okv x2 = true) (o6 : okv x6 = true) {p1 : Int} (hr : r.length < 900) : ∃ x8, okv x8 = true ∧ Tr 0 (evB tabs (cl (n + 5)) 1000 kB5 ⟨[some (.at .me), vI 0, x2, vI 0, vI 0, vI 0, x6, vI 0, none], mkR r r.length b k p1 p2 f8⟩) [some (.at .me), vI 0, x2, vI 0, vI 0, vI 0, x6, vI 0, x8] (step5 r) p1 p2 f8 := by
  have ho : ∀ fl x8, okv x8 = true → hasOwn ⟨[some (.at .me), vI 0, x2, vI 0, vI 0, vI 0, x6, vI 0, x8], fl⟩ = false := by
    intro fl x8 o8
    simp [hasOwn_eq, o2, o6, o8]
  rcases r with _ | ⟨x, r⟩
  · refine ⟨none, rfl, ?_⟩
    have h1 : evT tabs (cl (n + 5)) (.not (.callM 0 6 (.cons (.cattr (.ofString "g_v_I")) .nil))) ⟨[some (.at .me), vI 0, x2, vI 0, vI 0, vI 0, x6, vI 0, none], mkR [] 0 b k p1 p2 f8⟩ = some (!false, mkR [] 0 b k p1 p2 f8) := T_not (T_of (E_callM rfl (A_cattr at_vI) rfl (ho _ none rfl) out_R_nil))
    show Tr 0 (evB tabs (cl (n + 5)) 1000 kB5 ⟨[some (.at .me), vI 0, x2, vI 0, vI 0, vI 0, x6, vI 0, none], mkR [] 0 b k p1 p2 f8⟩) _ _ _ _ _
    rw [B_lab h1]; exact Tr.ex
  have hI := out_R (n := n + 4) (e := []) (s := r) (x := x) (a := 231) (b := b) (k := k) (p1 := p1) (p2 := p2) (f8 := f8) (by rfl) (by simp at hr ⊢; omega)
  simp only [List.nil_append] at hI; rw [set231] at hI
  have h1 : evT tabs (cl (n + 5)) (.not (.callM 0 6 (.cons (.cattr (.ofString "g_v_I")) .nil))) ⟨[some (.at .me), vI 0, x2, vI 0, vI 0, vI 0, x6, vI 0, none], mkR (x :: r) (x :: r).length b k p1 p2 f8⟩ = _ := T_not (T_of (E_callM rfl (A_cattr at_vI) rfl (ho _ none rfl) hI))
  cases hx : isVI x with
  | true =>
    rw [hx] at h1; refine ⟨none, rfl, ?_⟩; rw [B_lab h1]
    have : step5 (x :: r) = x :: r := by cases r <;> simp [step5, hx]
    rw [this]; exact Tr.ex
  | false =>
    rw [hx] at h1; refine ⟨vI (((x :: r).length : Int) - r.length), rfl, ?_⟩; rw [B_skip h1]; rw [if_neg (by decide)]; rw [B_next (σ' := ⟨[some (.at .me), vI 0, x2, vI 0, vI 0, vI 0, x6, vI 0, vI (((x :: r).length : Int) - r.length)], mkR (x :: r) r.length b k p1 p2 f8⟩) (S_v (by simp [okSet_eq]))]
    have hb := bwd_R (n := n + 4) (e := [x]) (s := r) (b := b) (k := k) (p1 := p1) (p2 := p2) (f8 := f8) (by simp at hr ⊢; omega) tab5 (by decide) (fa_5 r)
    simp only [List.cons_append, List.nil_append] at hb
    have h2 : evE tabs (cl (n + 5)) (.callM 0 9 (.cons (.cattr (.ofString "a_5")) .nil)) ⟨[some (.at .me), vI 0, x2, vI 0, vI 0, vI 0, x6, vI 0, vI (((x :: r).length : Int) - r.length)], mkR (x :: r) r.length b k p1 p2 f8⟩ = _ := E_callM rfl (A_cattr at_a5) rfl (ho _ _ rfl) hb
    rcases end5_split r with ⟨a, s, hrs, h5⟩ | h5
    · rw [h5] at h2
      rw [B_skip (T_cmp (fl' := mkR (x :: r) ((r.length : Int) - (2 : Nat)) b k p1 p2 f8) (y := ai 0) (v := false) h2 (by simp [evE]) rfl)]; subst hrs
      have hcur : (((a :: a :: s).length : Int) - (2 : Nat)) = s.length := by simp; omega
      rw [hcur]
      have hdv : dblV (a :: a :: s) = true := by unfold dblV; rw [h5]; rfl
      obtain ⟨c, h3⟩ := T_shut (n := n + 4) (e := [x, a, a]) (s := s) (b := b) (k := k) (p1 := p1) (p2 := p2) (f8 := f8) (loc := [vI 0, x2, vI 0, vI 0, vI 0, x6, vI 0, vI (((x :: a :: a :: s).length : Int) - (a :: a :: s).length)]) (by simp at hr ⊢; omega) (ho _ _ rfl); simp only [List.cons_append, List.nil_append] at h3
      cases hsh : shut s with
      | false =>
        rw [hsh] at h3; rw [B_lab h3]
        have : step5 (x :: a :: a :: s) = x :: a :: a :: s := by simp [step5, hsh]
        rw [this]; exact Tr.ex
      | true =>
        rw [hsh] at h3; rw [B_skip h3]
        have : step5 (x :: a :: a :: s) = x :: a :: s := by simp [step5, hsh, hx, hdv]
        rw [this]; rw [B_next (S_cur rfl), B_next S_ket]
        have e1 : (((x :: a :: a :: s).length : Int) - (((x :: a :: a :: s).length : Int) - (a :: a :: s).length)) = ((s.length : Int) + 1) + 1 := by simp only [List.length_cons]; omega
        rw [e1]; rw [B_skip (T_cmp (v := false) (E_fld rfl rfl) (E_fld rfl rfl) (by simp only [cmpV]; rw [decide_eq_false (by omega)]))]; rw [B_next S_back, B_next S_bra]
        have e2 : ((s.length : Int) + 1 + 1 - 1) = ((a :: s).length : Nat) := by simp only [List.length_cons]; omega
        rw [e2]
        have hdel := del_mid (n := n + 2) (x := x) (a := a) (t := a :: s) (p1 := p1) (p2 := p2) (f8 := f8) (by simp at hr ⊢; omega)
        have e3 : ((s.length : Int) + 1 + 1) = ((a :: s).length : Int) + 1 := by simp only [List.length_cons]; omega
        rw [e3]; rw [B_next (S_expr (E_callM rfl A_nil rfl (ho _ _ rfl) hdel)), B_nil]; exact Tr.nx
    · rw [h5] at h2
      rw [B_lab (T_cmp (fl' := mkR (x :: r) ((r.length : Int) - (0 : Nat)) b k p1 p2 f8) (y := ai 0) (v := true) h2 (by simp [evE]) rfl)]
      have : step5 (x :: r) = x :: r := by
        cases r with
        | nil => rfl
        | cons a t => simp [step5, dblV, h5]
      rw [this]; exact Tr.ex
end Mine
namespace Mine
variable {n : Nat} {r e s : List Nat} {b k p2 : Int} {f8 : Option Atom} {p1 : Nat} {N : Nat} {loc : List (Option AV)} {Γ : Call}
def igOk (q : Nat) (s : List Nat) : Bool := [103, 105].isPrefixOf s && (decide (q ≤ (s.drop 2).length) && (s.drop 2).head? != some 101)
abbrev kIg : CB := (.cons (.setf 5 (.fld 1)) (.cons (.ite (.not (.callM 0 7 (.cons (.str ⟨#[105, 103]⟩) .nil))) (.cons (.raise 1) .nil) .nil) (.cons (.setf 4 (.fld 1)) (.cons (.ite (.not (.callM 0 19 .nil)) (.cons (.raise 1) .nil) .nil) (.cons (lastIs 101 2 1) (.cons (.expr (.callM 0 12 .nil)) (.cons .brk .nil)))))))
theorem ig_no {q : Nat} {p1 : Int} (hs : s.length < 900) (ho : ∀ fl, hasOwn ⟨some (.at .me) :: loc, fl⟩ = false) (h : igOk q s = false) : ∃ c b' k' : Int, evB tabs (cl (n + 5)) 1000 kIg ⟨some (.at .me) :: loc, mkR s s.length b k p1 q f8⟩ = some (⟨some (.at .me) :: loc, mkR s c b' k' p1 q f8⟩, .exc 1) := by
  rw [B_next S_ket]
  have h1 := T_eqs (n := n + 4) (e := []) (s := s) (b := b) (k := s.length) (p1 := p1) (p2 := q) (f8 := f8) (loc := loc) (x := ⟨#[105, 103]⟩) (y := [105, 103]) rfl (by simp; omega) (by decide) (ho _)
  simp only [List.nil_append] at h1
  have hrv : [105, 103].reverse = [103, 105] := rfl
  rw [hrv] at h1; unfold igOk at h
  cases hp : [103, 105].isPrefixOf s with
  | false =>
    rw [hp] at h1; exact ⟨_, _, _, B_lab h1⟩
  | true =>
    rw [hp] at h1 h; rw [B_skip h1]; obtain ⟨t, hs'⟩ := pre_ex hp
    have hd : s.drop 2 = t := by rw [hs']; rfl
    have hcur : (if true then (s.length : Int) - [105, 103].length else s.length) = t.length := by rw [hs']; simp; omega
    rw [hd] at h; rw [hcur, B_next S_bra]
    have h2 := T_R2 (n := n + 4) (r := s) (c := t.length) (b := t.length) (k := s.length) (p1 := p1) (p2 := q) (f8 := f8) (loc := loc) (ho _)
    by_cases hq : q ≤ t.length
    · rw [B_skip (T_val h2 (by simp [hq]))]
      have hc : t.head? = some 101 := by simpa [hq] using h
      have hlen : t.length < 898 := by have := congrArg List.length hs'; simp at this; omega
      have h3 := last_yes (Γ := cl (n + 5)) (N := 1000) (e := [103, 105]) (s := t) (b := t.length) (k := s.length) (p1 := p1) (p2 := q) (f8 := f8) (loc := loc) (y := 101) (j1 := 2) (j0 := 1) (by simp; omega) hc (by decide)
      rw [← hs'] at h3; exact ⟨_, _, _, B_exc h3⟩
    · exact ⟨_, _, _, B_lab (T_val h2 (by simp [hq]))⟩
theorem ig_yes {q : Nat} {p1 : Int} (hs : s.length < 900) (ho : ∀ fl, hasOwn ⟨some (.at .me) :: loc, fl⟩ = false) (h : igOk q s = true) : ∃ c b' k' : Int, evB tabs (cl (n + 5)) 1000 kIg ⟨some (.at .me) :: loc, mkR s s.length b k p1 q f8⟩ = some (⟨some (.at .me) :: loc, mkR (s.drop 2) c b' k' p1 q f8⟩, .brk) := by
  rw [B_next S_ket]
  have h1 := T_eqs (n := n + 4) (e := []) (s := s) (b := b) (k := s.length) (p1 := p1) (p2 := q) (f8 := f8) (loc := loc) (x := ⟨#[105, 103]⟩) (y := [105, 103]) rfl (by simp; omega) (by decide) (ho _)
  simp only [List.nil_append] at h1
  have hrv : [105, 103].reverse = [103, 105] := rfl
  rw [hrv] at h1; unfold igOk at h; obtain ⟨hp, h⟩ := Bool.and_eq_true_iff.mp h; obtain ⟨hq, h⟩ := Bool.and_eq_true_iff.mp h; rw [hp] at h1; rw [B_skip h1]; obtain ⟨t, hs'⟩ := pre_ex hp
  have hd : s.drop 2 = t := by rw [hs']; rfl
  have hcur : (if true then (s.length : Int) - [105, 103].length else s.length) = t.length := by rw [hs']; simp; omega
  rw [hd] at h hq ⊢; rw [hcur, B_next S_bra]
  have h2 := T_R2 (n := n + 4) (r := s) (c := t.length) (b := t.length) (k := s.length) (p1 := p1) (p2 := q) (f8 := f8) (loc := loc) (ho _)
  have hq' : q ≤ t.length := by simpa using hq
  have hc : t.head? ≠ some 101 := by simpa using h
  rw [B_skip (T_val h2 (by simp [hq']))]
  have hlen : t.length < 898 := by have := congrArg List.length hs'; simp at this; omega
  have h3 := last_no (Γ := cl (n + 5)) (N := 1000) (e := [103, 105]) (s := t) (b := t.length) (k := s.length) (p1 := p1) (p2 := q) (f8 := f8) (loc := loc) (y := 101) (j1 := 2) (j0 := 1) (by simp; omega) hc
  rw [← hs'] at h3; rw [B_next h3]
  have hdel := del_R (n := n + 2) (e := [103, 105]) (s := t) (p1 := p1) (p2 := q) (f8 := f8) (by simp; omega)
  rw [← hs'] at hdel; rw [B_next (S_expr (E_callM rfl A_nil rfl (ho _) hdel))]; exact ⟨_, _, _, B_brk (by rw [evS])⟩
abbrev kW : CB := (.cons (.assign 6 (.bin .sub (.fld 2) (.fld 1))) (.cons (.try 1 kIg) (.cons (.setf 1 (.bin .sub (.fld 2) (.var 6))) (.cons (.ite (.not (.callM 0 20 .nil)) (.cons (.raise 0) .nil) .nil) (.cons .brk .nil)))))
abbrev Lw (x2 x6 : Option AV) : List (Option AV) := [some (.at .me), vI 0, x2, vI 0, vI 0, vI 0, x6, none, none]
theorem own_Lw {x2 x6 : Option AV} (o2 : okv x2 = true) (o6 : okv x6 = true) (fl : FL) : hasOwn ⟨Lw x2 x6, fl⟩ = false := by simp [hasOwn_eq, o2, o6]
def step4a (q : Nat) (s : List Nat) : List Nat := if igOk q s then s.drop 2 else single s
theorem whl {q : Nat} {p1 : Int} {z : Int} (hs : s.length < 900) : Tr 0 (evS tabs (cl (n + 5)) 1000 (.while (.bool true) kW) ⟨Lw (vI z) none, mkR s s.length b k p1 q f8⟩) (Lw (vI z) (vI 0)) (step4a q s) p1 q f8 := by
  rw [S_while]
  have h1 : evS tabs (cl (n + 5)) 1000 (.assign 6 (.bin .sub (.fld 2) (.fld 1))) ⟨Lw (vI z) none, mkR s s.length b k p1 q f8⟩ = some (⟨Lw (vI z) (vI 0), mkR s s.length b k p1 q f8⟩, .next) := by
    refine (S_v (by simp [okSet_eq])).trans ?_; rw [Int.sub_self]; rfl
  unfold step4a
  cases hi : igOk q s with
  | true =>
    obtain ⟨c, b', k', h2⟩ := ig_yes (n := n) (b := b) (k := k) (p1 := p1) (f8 := f8) (loc := (Lw (vI z) (vI 0)).tail) hs (own_Lw rfl rfl) hi; rw [while_brk (t_true _) ((B_next h1).trans (B_brk (S_try h2 (by intro j h; cases h))))]; exact Tr.nx
  | false =>
    obtain ⟨c, b', k', h2⟩ := ig_no (n := n) (b := b) (k := k) (p1 := p1) (f8 := f8) (loc := (Lw (vI z) (vI 0)).tail) hs (own_Lw rfl rfl) hi; obtain ⟨c2, b2, k2, h4⟩ := undouble (n := n + 1) (r := s) (b := b') (k := k') (p1 := p1) (p2 := q) (f8 := f8) (by omega)
    have h3 : evS tabs (cl (n + 5)) 1000 (.setf 1 (.bin .sub (.fld 2) (.var 6))) ⟨Lw (vI z) (vI 0), mkR s c b' k' p1 q f8⟩ = some (⟨Lw (vI z) (vI 0), mkR s s.length b' k' p1 q f8⟩, .next) := by
      refine (S_cur (z := 0) rfl).trans ?_; rw [Int.sub_zero]
    have h5 : evT tabs (cl (n + 5)) (.not (.callM 0 20 .nil)) ⟨Lw (vI z) (vI 0), mkR s s.length b' k' p1 q f8⟩ = some (!dbl s, mkR (single s) c2 b2 k2 p1 q f8) := T_not (T_of (E_callM rfl A_nil rfl (own_Lw rfl rfl _) h4))
    rw [if_neg (by decide)]
    cases hd : dbl s with
    | true =>
      rw [hd] at h5; rw [while_brk (t_true _) ((B_next h1).trans ((B_next (S_tryx h2)).trans ((B_next h3).trans ((B_skip h5).trans (B_brk (by rw [evS]))))))]; exact Tr.nx
    | false =>
      rw [hd] at h5; rw [while_exc (t_true _) ((B_next h1).trans ((B_next (S_tryx h2)).trans ((B_next h3).trans (B_lab h5))))]; exact Tr.ex
abbrev kC1 : CB := (.cons (.ite (.not (.callM 0 19 .nil)) (.cons (.raise 0) .nil) .nil) (.cons (.expr (.callM 0 12 .nil)) (.cons (.while (.bool true) kW) .nil)))
abbrev kC2 : CB := (.cons (.ite (.not (.callM 0 19 .nil)) (.cons (.raise 0) .nil) .nil) (.cons (lastIs 101 1 0) (.cons (.expr (.callM 0 12 .nil)) .nil)))
abbrev kC3 : CB := (.cons (.ite (.not (.callM 0 19 .nil)) (.cons (.raise 0) .nil) .nil) (.cons (.expr (.callM 0 12 .nil)) (.cons (.ite (.not (.callM 0 21 .nil)) (.cons (.raise 0) .nil) .nil) .nil)))
abbrev kC4 : CB := (.cons (.ite (.not (.callM 0 19 .nil)) (.cons (.raise 0) .nil) .nil) (.cons (.expr (.callM 0 12 .nil)) .nil))
abbrev kC5 : CB := (.cons (.ite (.not (.callM 0 19 .nil)) (.cons (.raise 0) .nil) .nil) (.cons (.ite (.not (.fld 8)) (.cons (.raise 0) .nil) .nil) (.cons (.expr (.callM 0 12 .nil)) .nil)))
abbrev kB4 : CB := (.cons (.setf 5 (.fld 1)) (.cons (.assign 2 (.callM 0 9 (.cons (.cattr (.ofString "a_4")) .nil))) (.cons (.ite (.cmp .eq (.var 2) (.int 0)) (.cons (.raise 0) .nil) .nil) (.cons (.setf 4 (.fld 1)) (.cons (.ite (.cmp .eq (.var 2) (.int 1)) kC1 (.cons (.ite (.cmp .eq (.var 2) (.int 2)) kC2 (.cons (.ite (.cmp .eq (.var 2) (.int 3)) kC3 (.cons (.ite (.cmp .eq (.var 2) (.int 4)) kC4 kC5) .nil)) .nil)) .nil)) .nil)))))
def step4 (p q : Nat) (found : Bool) (r : List Nat) : List Nat :=
  if (end4 r).2 = 0 then r else if ¬ q ≤ (r.drop (end4 r).1).length then r
  else if (end4 r).2 = 1 then step4a q (r.drop (end4 r).1)
  else if (end4 r).2 = 2 then (if (r.drop (end4 r).1).head? = some 101 then r else r.drop (end4 r).1)
  else if (end4 r).2 = 3 then (lessE p (r.drop (end4 r).1)).getD (r.drop (end4 r).1)
  else if (end4 r).2 = 4 then r.drop (end4 r).1
  else if found then r.drop (end4 r).1 else r
theorem Tr.one {j : Nat} {S : CS} {σ : AS} {L : List (Option AV)} {r : List Nat} {p1 p2 : Int} {f8 : Option Atom} (h : Tr j (evS tabs Γ N S σ) L r p1 p2 f8) : Tr j (evB tabs Γ N (.cons S .nil) σ) L r p1 p2 f8 := by
  obtain ⟨c, b, k, h | h⟩ := h
  · exact ⟨c, b, k, .inl ((B_next h).trans B_nil)⟩
  · exact ⟨c, b, k, .inr (B_exc h)⟩
theorem Tr.ite1 {j : Nat} {t : CE} {A B : CB} {σ : AS} {fl : FL} {L : List (Option AV)} {r : List Nat} {p1 p2 : Int} {f8 : Option Atom} (ht : evT tabs Γ t σ = some (true, fl)) (h : Tr j (evB tabs Γ N A ⟨σ.loc, fl⟩) L r p1 p2 f8) : Tr j (evS tabs Γ N (.ite t A B) σ) L r p1 p2 f8 := by
  rw [S_true ht]; exact h
theorem Tr.ite0 {j : Nat} {t : CE} {A B : CB} {σ : AS} {fl : FL} {L : List (Option AV)} {r : List Nat} {p1 p2 : Int} {f8 : Option Atom} (ht : evT tabs Γ t σ = some (false, fl)) (h : Tr j (evB tabs Γ N B ⟨σ.loc, fl⟩) L r p1 p2 f8) : Tr j (evS tabs Γ N (.ite t A B) σ) L r p1 p2 f8 := by
  rw [S_false ht]; exact h
theorem block4 {q : Nat} {z0 : Int} {found : Bool} (hr : r.length < 900) : ∃ (z : Int) (x6 : Option AV) (v8 : Bool), okv x6 = true ∧ Tr 0 (evB tabs (cl (n + 6)) 1000 kB4 ⟨Lw (vI z0) none, mkR r r.length b k p1 q (aB found)⟩) (Lw (vI z) x6) (step4 p1 q found r) p1 q (aB v8) := by
  obtain ⟨e, s, hes, hl, hc⟩ := end4_split r
  have hb := bwd_R (n := n + 5) (e := []) (s := r) (b := b) (k := r.length) (p1 := p1) (p2 := q) (f8 := aB found) (by simp; omega) tab4 (by decide) (fa_4 r)
  simp only [List.nil_append] at hb
  have h0 : evE tabs (cl (n + 6)) (.callM 0 9 (.cons (.cattr (.ofString "a_4")) .nil)) ⟨Lw (vI z0) none, mkR r r.length b r.length p1 q (aB found)⟩ = _ := E_callM rfl (A_cattr at_a4) rfl rfl hb
  obtain ⟨z, hz⟩ : ∃ z, z = (end4 r).2 := ⟨_, rfl⟩
  have hd : r.drop (end4 r).1 = s := by
    rw [hl]
    conv => lhs; rw [hes]
    rw [List.drop_left]
  have hlen := congrArg List.length hes
  rw [List.length_append] at hlen
  have hcur : ((r.length : Int) - (end4 r).1) = s.length := by rw [hl]; omega
  rw [hcur, ← hz] at h0; refine ⟨z, ?_⟩; unfold step4; rw [← hz] at hc ⊢; rw [hd]
  have e0 : evB tabs (cl (n + 6)) 1000 kB4 ⟨Lw (vI z0) none, mkR r r.length b k p1 q (aB found)⟩ = _ := (B_next S_ket).trans (B_next (σ' := ⟨Lw (vI z) none, mkR r s.length b r.length p1 q (aB found)⟩) ((S_assign h0 rfl rfl).trans rfl))
  rw [e0]
  rcases hc with h | ⟨hne, hc⟩
  · rw [if_pos h]
    subst h; refine ⟨none, found, rfl, ?_⟩; rw [B_lab (T_yes rfl)]; exact Tr.ex
  have hz0 : z ≠ 0 := by omega
  rw [if_neg hz0, B_skip (T_no rfl hz0), B_next S_bra]
  have h2 := T_R2 (n := n + 5) (r := r) (c := s.length) (b := s.length) (k := r.length) (p1 := p1) (p2 := q) (f8 := aB found) (loc := (Lw (vI z) none).tail) (own_Lw rfl rfl _)
  have hdel := del_R (n := n + 3) (e := e) (s := s) (p1 := p1) (p2 := q) (f8 := aB found) (by rw [← hes]; omega)
  rw [← hes] at hdel
  have hdl : ∀ {rest : CB}, evB tabs (cl (n + 6)) 1000 (.cons (.expr (.callM 0 12 .nil)) rest) ⟨Lw (vI z) none, mkR r s.length s.length r.length p1 q (aB found)⟩ = evB tabs (cl (n + 6)) 1000 rest ⟨Lw (vI z) none, mkR s s.length s.length s.length p1 q (aB found)⟩ := B_next (S_expr (E_callM rfl A_nil rfl (own_Lw rfl rfl _) hdel))
  by_cases hq : q ≤ s.length
  · rw [if_neg (by simpa using hq)]
    have hR : ∀ {rest : CB}, evB tabs (cl (n + 6)) 1000 (.cons (.ite (.not (.callM 0 19 .nil)) (.cons (.raise 0) .nil) .nil) rest) ⟨Lw (vI z) none, mkR r s.length s.length r.length p1 q (aB found)⟩ = evB tabs (cl (n + 6)) 1000 rest ⟨Lw (vI z) none, mkR r s.length s.length r.length p1 q (aB found)⟩ := B_skip (T_val h2 (by simp [hq]))
    by_cases h1 : z = 1
    · rw [if_pos h1]
      subst h1; refine ⟨vI 0, found, rfl, Tr.one (Tr.ite1 (T_yes rfl) ?_)⟩; rw [hR, hdl]; exact Tr.one (whl (n := n + 1) (by omega))
    rw [if_neg h1]
    by_cases h2' : z = 2
    · rw [if_pos h2']
      subst h2'; refine ⟨none, found, rfl, Tr.one (Tr.ite0 (T_no rfl h1) (Tr.one (Tr.ite1 (T_yes rfl) ?_)))⟩; rw [hR]
      by_cases hy : s.head? = some 101
      · rw [if_pos hy]
        have h3 := last_yes (Γ := cl (n + 6)) (N := 1000) (e := e) (s := s) (b := s.length) (k := r.length) (p1 := p1) (p2 := q) (f8 := aB found) (loc := (Lw (vI 2) none).tail) (y := 101) (j1 := 1) (j0 := 0) (by rw [← hes]; omega) hy (by decide)
        rw [← hes, show (some (AV.at Atom.me) :: (Lw (vI 2) none).tail) = Lw (vI 2) none from rfl] at h3; rw [B_exc h3]; exact Tr.ex
      · rw [if_neg hy]
        have h3 := last_no (Γ := cl (n + 6)) (N := 1000) (e := e) (s := s) (b := s.length) (k := r.length) (p1 := p1) (p2 := q) (f8 := aB found) (loc := (Lw (vI 2) none).tail) (y := 101) (j1 := 1) (j0 := 0) (by rw [← hes]; omega) hy
        rw [← hes, show (some (AV.at Atom.me) :: (Lw (vI 2) none).tail) = Lw (vI 2) none from rfl] at h3; rw [B_next h3]; refine (congrArg (fun o => Tr 0 o _ _ _ _ _) hdl).mpr ?_; rw [B_nil]; exact Tr.nx
    rw [if_neg h2']
    by_cases h3 : z = 3
    · rw [if_pos h3]
      subst h3; obtain ⟨v, c', b', k', he⟩ := e_ending (n := n + 1) (r := s) (b := s.length) (k := s.length) (p1 := p1) (p2 := q) (f8 := aB found) (by omega)
      have h5 : evT tabs (cl (n + 6)) (.not (.callM 0 21 .nil)) ⟨Lw (vI 3) none, mkR s s.length s.length s.length p1 q (aB found)⟩ = some (!v, mkR ((lessE p1 s).getD s) c' b' k' p1 q (aB (lessE p1 s).isSome)) := T_not (T_of (E_callM rfl A_nil rfl (own_Lw rfl rfl _) he))
      refine ⟨none, (lessE p1 s).isSome, rfl, Tr.one (Tr.ite0 (T_no rfl h1) (Tr.one (Tr.ite0 (T_no rfl h2') (Tr.one (Tr.ite1 (T_yes rfl) ?_)))))⟩; rw [hR, hdl]
      cases v with
      | true => rw [B_skip h5, B_nil]; exact Tr.nx
      | false => rw [B_lab h5]; exact Tr.ex
    rw [if_neg h3]
    by_cases h4 : z = 4
    · rw [if_pos h4]
      subst h4; refine ⟨none, found, rfl, Tr.one (Tr.ite0 (T_no rfl h1) (Tr.one (Tr.ite0 (T_no rfl h2') (Tr.one (Tr.ite0 (T_no rfl h3) (Tr.one (Tr.ite1 (T_yes rfl) ?_)))))))⟩; rw [hR, hdl, B_nil]; exact Tr.nx
    rw [if_neg h4]; refine ⟨none, found, rfl, Tr.one (Tr.ite0 (T_no rfl h1) (Tr.one (Tr.ite0 (T_no rfl h2') (Tr.one (Tr.ite0 (T_no rfl h3) (Tr.one (Tr.ite0 (T_no rfl h4) ?_)))))))⟩; rw [hR]
    have h6 : evT tabs (cl (n + 6)) (.not (.fld 8)) ⟨Lw (vI z) none, mkR r s.length s.length r.length p1 q (aB found)⟩ = some (!found, mkR r s.length s.length r.length p1 q (aB found)) := T_not (T_of (E_fld rfl rfl))
    cases found with
    | true => rw [B_skip h6, hdl, B_nil]; exact Tr.nx
    | false => rw [B_lab h6]; exact Tr.ex
  · rw [if_pos hq]
    have hR : ∀ {rest : CB}, evB tabs (cl (n + 6)) 1000 (.cons (.ite (.not (.callM 0 19 .nil)) (.cons (.raise 0) .nil) .nil) rest) ⟨Lw (vI z) none, mkR r s.length s.length r.length p1 q (aB found)⟩ = some (⟨Lw (vI z) none, mkR r s.length s.length r.length p1 q (aB found)⟩, .exc 0) := B_lab (T_val h2 (by simp [hq]))
    refine ⟨none, found, rfl, Tr.one ?_⟩
    by_cases h1 : z = 1
    · subst h1
      refine Tr.ite1 (T_yes rfl) ?_; rw [hR]; exact Tr.ex
    refine Tr.ite0 (T_no rfl h1) (Tr.one ?_)
    by_cases h2' : z = 2
    · subst h2'
      refine Tr.ite1 (T_yes rfl) ?_; rw [hR]; exact Tr.ex
    refine Tr.ite0 (T_no rfl h2') (Tr.one ?_)
    by_cases h3 : z = 3
    · subst h3
      refine Tr.ite1 (T_yes rfl) ?_; rw [hR]; exact Tr.ex
    refine Tr.ite0 (T_no rfl h3) (Tr.one ?_)
    by_cases h4 : z = 4
    · subst h4
      refine Tr.ite1 (T_yes rfl) ?_; rw [hR]; exact Tr.ex
    refine Tr.ite0 (T_no rfl h4) ?_; rw [hR]; exact Tr.ex
end Mine
namespace Mine
theorem single_len (r : List Nat) : (single r).length ≤ r.length := by unfold single; split <;> simp
theorem lessE_len (p : Nat) (r : List Nat) : ((lessE p r).getD r).length ≤ r.length := by
  unfold lessE
  split
  · simp
  · rename_i x s
    split
    · have := single_len s; simp only [Option.getD_some, List.length_cons]; omega
    · simp
theorem lessEn_len (p : Nat) {r s : List Nat} (h : s.length ≤ r.length) : (lessEn p r s).length ≤ r.length := by
  unfold lessEn
  split
  · have := single_len s; omega
  · exact Nat.le_refl _
theorem end3_one {r : List Nat} (h : (end3 r).2 = 1) : (end3 r).1 = 5 ∧ 5 ≤ r.length := by
  unfold end3 at h ⊢
  split at h
  · rename_i q; obtain ⟨s, rfl⟩ := pre_ex q; exact ⟨rfl, by simp⟩
  split at h
  · simp at h
  split at h
  · simp at h
  split at h
  · simp at h
  split at h
  · simp at h
  · simp at h
theorem step1_len (p : Nat) (r : List Nat) : (step1 p r).length ≤ r.length := by
  unfold step1
  split
  · exact Nat.le_refl _
  split
  · rename_i h
    obtain ⟨h1, h2⟩ := end3_one h
    split
    · simp only [List.length_append, List.length_cons, List.length_nil, List.length_drop]; omega
    · exact Nat.le_refl _
  split
  · exact lessEn_len p (by simp)
  split
  · simp
  · exact Nat.le_refl _
theorem step3_len (p q : Nat) (r : List Nat) : (step3 p q r).length ≤ r.length := by
  unfold step3
  split
  · split
    · split
      · exact Nat.le_trans (lessEn_len p (by simp only [List.length_drop]; omega)) (by simp)
      · simp
    · exact Nat.le_refl _
  · exact Nat.le_refl _
theorem step4_len (p q : Nat) (v : Bool) (r : List Nat) : (step4 p q v r).length ≤ r.length := by
  unfold step4 step4a
  split
  · exact Nat.le_refl _
  split
  · exact Nat.le_refl _
  split
  · split
    · simp only [List.length_drop]; omega
    · exact Nat.le_trans (single_len _) (by simp)
  split
  · split
    · exact Nat.le_refl _
    · simp
  split
  · exact Nat.le_trans (lessE_len _ _) (by simp)
  split
  · simp
  split
  · simp
  · exact Nat.le_refl _
theorem step5_len (r : List Nat) : (step5 r).length ≤ r.length := by
  unfold step5
  split
  · split <;> simp
  · exact Nat.le_refl _
def step2 (p : Nat) (r : List Nat) : List Nat := (lessE p r).getD r
def suffix (p q : Nat) (r : List Nat) : List Nat := step5 (step4 p q (lessE p (step1 p r)).isSome (step3 p q (step2 p (step1 p r))))
theorem suffix_len (p q : Nat) (r : List Nat) : (suffix p q r).length ≤ r.length :=
  Nat.le_trans (step5_len _) (Nat.le_trans (step4_len ..) (Nat.le_trans (step3_len ..) (Nat.le_trans (lessE_len ..) (step1_len ..))))
variable {n : Nat} {r : List Nat} {b k : Int} {f8 : Option Atom} {p q : Nat}
theorem std_suffix (hr : r.length < 900) : ∃ (c b' k' : Int) (v8 : Bool), cl (n + 7) 23 [.at .me] (mkR r r.length b k p q f8) = some (ab true, mkR (suffix p q r) c b' k' p q (aB v8)) := by
  rw [cl_at (F := ⟨1, _, c_r_standard_suffix⟩) rfl rfl]; show ∃ (c b' k' : Int) (v8 : Bool), retOf (evB tabs (cl (n + 6)) 1000 c_r_standard_suffix ⟨[some (.at .me), none, none, none, none, none, none, none, none], mkR r r.length b k p q f8⟩) = _; unfold suffix step2; obtain ⟨r1, h1⟩ : ∃ r1, r1 = step1 p r := ⟨_, rfl⟩
  have l1 : r1.length < 900 := by have := step1_len p r; rw [← h1] at this; omega
  obtain ⟨r2, h2⟩ : ∃ r2, r2 = (lessE p r1).getD r1 := ⟨_, rfl⟩
  have l2 : r2.length < 900 := by have := lessE_len p r1; rw [← h2] at this; omega
  obtain ⟨r3, h3⟩ : ∃ r3, r3 = step3 p q r2 := ⟨_, rfl⟩
  have l3 : r3.length < 900 := by have := step3_len p q r2; rw [← h3] at this; omega
  obtain ⟨r4, h4⟩ : ∃ r4, r4 = step4 p q (lessE p r1).isSome r3 := ⟨_, rfl⟩
  have l4 : r4.length < 900 := by have := step4_len p q (lessE p r1).isSome r3; rw [← h4] at this; omega
  obtain ⟨r5, h5⟩ : ∃ r5, r5 = step5 r4 := ⟨_, rfl⟩; rw [← h1, ← h2, ← h3, ← h4, ← h5]; unfold c_r_standard_suffix
  have z0 : ∀ x : Int, x - x = 0 := fun x => Int.sub_self x
  have cur : ∀ {L : List (Option AV)} {i : Nat} {r : List Nat} {c b k : Int} {f8 : Option Atom}, (some (.at .me) :: L)[i]? = some (vI 0) → evS tabs (cl (n + 6)) 1000 (.setf 1 (.bin .sub (.fld 2) (.var i))) ⟨some (.at .me) :: L, mkR r c b k p q f8⟩ = some (⟨some (.at .me) :: L, mkR r r.length b k p q f8⟩, .next) := by
    intro L i r c b k f8 h
    refine (S_cur h).trans ?_; rw [Int.sub_zero]
  have asg : ∀ {L : List (Option AV)} {i : Nat} {r : List Nat} {b k : Int} {f8 : Option Atom}, okSet i ⟨some (.at .me) :: L, mkR r r.length b k p q f8⟩ = true → evS tabs (cl (n + 6)) 1000 (.assign i (.bin .sub (.fld 2) (.fld 1))) ⟨some (.at .me) :: L, mkR r r.length b k p q f8⟩ = some (⟨(some (.at .me) :: L).set i (vI 0), mkR r r.length b k p q f8⟩, .next) := by
    intro L i r b k f8 h
    refine (S_v h).trans ?_; rw [Int.sub_self]
  rw [B_next (σ' := ⟨[some (.at .me), vI 0, none, none, none, none, none, none, none], mkR r r.length b k p q f8⟩) (asg rfl)]; obtain ⟨z, t1⟩ := block1 (n := n + 1) (b := b) (k := k) (p2 := q) (f8 := f8) (p1 := p) hr; rw [← h1] at t1; obtain ⟨c1, b1, k1, e1⟩ := t1.try; rw [B_next e1, B_next (cur rfl)]; rw [B_next (σ' := ⟨[some (.at .me), vI 0, vI z, vI 0, none, none, none, none, none], mkR r1 r1.length b1 k1 p q f8⟩) (asg rfl)]; obtain ⟨v2, c2, b2, k2, e2⟩ := e_ending (n := n + 1) (b := b1) (k := k1) (p2 := q) (f8 := f8) (p1 := p) (r := r1) (by omega); rw [← h2] at e2; rw [B_next (S_expr (E_callM rfl A_nil rfl rfl e2)), B_next (cur rfl)]; rw [B_next (σ' := ⟨[some (.at .me), vI 0, vI z, vI 0, vI 0, none, none, none, none], mkR r2 r2.length b2 k2 p q (aB (lessE p r1).isSome)⟩) (asg rfl)]
  have t3 := block3 (n := n + 1) (b := b2) (k := k2) (q := q) (f8 := aB (lessE p r1).isSome) (p1 := p) (loc := [vI 0, vI z, vI 0, vI 0, none, none, none, none]) l2 (fun _ => rfl)
  rw [← h3] at t3; obtain ⟨c3, b3, k3, e3⟩ := t3.try; rw [B_next e3, B_next (cur rfl)]; rw [B_next (σ' := ⟨Lw (vI z) none, mkR r3 r3.length b3 k3 p q (aB (lessE p r1).isSome)⟩) (asg rfl)]; obtain ⟨z4, x6, v8, o6, t4⟩ := block4 (n := n) (b := b3) (k := k3) (q := q) (p1 := p) (z0 := z) (found := (lessE p r1).isSome) l3; rw [← h4] at t4; obtain ⟨c4, b4, k4, e4⟩ := t4.try; rw [B_next e4, B_next (cur rfl)]; rw [B_next (σ' := ⟨[some (.at .me), vI 0, vI z4, vI 0, vI 0, vI 0, x6, vI 0, none], mkR r4 r4.length b4 k4 p q (aB v8)⟩) (asg (by simp [okSet_eq]))]; obtain ⟨x8, o8, t5⟩ := block5 (n := n + 1) (b := b4) (k := k4) (p2 := q) (p1 := p) (f8 := aB v8) (x2 := vI z4) (x6 := x6) rfl o6 l4; rw [← h5] at t5; obtain ⟨c5, b5, k5, e5⟩ := t5.try; rw [B_next e5, B_next (cur rfl)]; refine ⟨r5.length, b5, k5, v8, ?_⟩; rw [B_ret (S_ret (v := ab true) (by rw [evE]) rfl)]; rfl
end Mine
namespace Mine
abbrev mkP (pre t : List Nat) (c b k : Int) (f6 f7 f8 : Option Atom) : FL := mkF (pre ++ t) c (pre ++ t).length 0 b k f6 f7 f8
variable {n : Nat} {pre t : List Nat} {b k : Int} {f6 f7 f8 : Option Atom} {Γ : Call} {N : Nat} {loc : List (Option AV)}
theorem rep1 {x z c : Nat} (h : (pre ++ x :: t).length < 900) (hc : pre.length + 1 ≤ c) : cl (n + 2) 11 [.at .me, as ⟨#[z]⟩] (mkP pre (x :: t) c pre.length ((pre.length : Int) + 1) f6 f7 f8) = some (.at (.cst .none), mkP (pre ++ [z]) t c pre.length ((pre.length : Int) + 1) f6 f7 f8) := by
  have := slice_from_spec (n := n) (l := pre ++ x :: t) (lb := 0) (f6 := f6) (f7 := f7) (f8 := f8) (c := c) (b := pre.length) (k := pre.length + 1) (y := [z]) (by simp at h ⊢; omega) (by omega) (by simp)
  have e1 : (pre ++ x :: t).take pre.length = pre := List.take_left
  have e2 : (pre ++ x :: t).drop (pre.length + 1) = t := by
    have : pre ++ x :: t = (pre ++ [x]) ++ t := by simp
    rw [this]
    have h2 : pre.length + 1 = (pre ++ [x]).length := by simp
    rw [h2, List.drop_left]
  rw [e1, e2] at this
  have h1 : moved c pre.length (pre.length + 1) ((([z] : List Nat).length : Int) - (((pre.length + 1 : Nat) : Int) - pre.length)) = c := by
    unfold moved; rw [if_pos hc]; simp; omega
  have h2 : ((pre ++ x :: t).length : Int) + ((([z] : List Nat).length : Int) - (((pre.length + 1 : Nat) : Int) - pre.length)) = ((pre ++ [z]) ++ t).length := by simp only [List.length_append, List.length_cons, List.length_nil]; omega
  rw [h1, h2] at this; exact this
theorem P_bra {c : Int} : evS tabs Γ N (.setf 4 (.fld 1)) ⟨some (.at .me) :: loc, mkP pre t c b k f6 f7 f8⟩ = some (⟨some (.at .me) :: loc, mkP pre t c c k f6 f7 f8⟩, .next) := by
  rw [evS]; simp [evE, selfIs, binV, ai, isPl]
theorem P_ket {c : Int} : evS tabs Γ N (.setf 5 (.fld 1)) ⟨some (.at .me) :: loc, mkP pre t c b k f6 f7 f8⟩ = some (⟨some (.at .me) :: loc, mkP pre t c b c f6 f7 f8⟩, .next) := by
  rw [evS]; simp [evE, selfIs, binV, ai, isPl]
theorem P_inc {c : Int} : evS tabs Γ N (.augf 1 .add (.int 1)) ⟨some (.at .me) :: loc, mkP pre t c b k f6 f7 f8⟩ = some (⟨some (.at .me) :: loc, mkP pre t (c + 1) b k f6 f7 f8⟩, .next) := by
  rw [evS]; simp [evE, selfIs, binV, ai, isPl, augV]
theorem P_v {c : Int} {i : Nat} (ho : okSet i ⟨some (.at .me) :: loc, mkP pre t c b k f6 f7 f8⟩ = true) : evS tabs Γ N (.assign i (.fld 1)) ⟨some (.at .me) :: loc, mkP pre t c b k f6 f7 f8⟩ = some (⟨(some (.at .me) :: loc).set i (vI c), mkP pre t c b k f6 f7 f8⟩, .next) := by
  rw [evS]; simp [evE, selfIs, binV, ai, AV.isSt, ho, bindV]
theorem P_cur {c z : Int} {i : Nat} (h : (some (.at .me) :: loc)[i]? = some (vI z)) : evS tabs Γ N (.setf 1 (.var i)) ⟨some (.at .me) :: loc, mkP pre t c b k f6 f7 f8⟩ = some (⟨some (.at .me) :: loc, mkP pre t z b k f6 f7 f8⟩, .next) := by
  rw [evS]; simp [evE, selfIs, h, binV, ai, isPl]
theorem P_end {c : Int} : evT tabs Γ (.cmp .ge (.fld 1) (.fld 2)) ⟨some (.at .me) :: loc, mkP pre t c b k f6 f7 f8⟩ = some (decide (c ≥ (pre ++ t).length), mkP pre t c b k f6 f7 f8) := T_cmp (E_fld rfl rfl) (E_fld rfl rfl) rfl
theorem T_at {y : Nat} (hs : (pre ++ t).length < 1000) : evT tabs Γ (.or (.cons (.cmp .eq (.fld 1) (.fld 2)) (.cons (.cmp .ne (.idx (.fld 0) (.fld 1)) (.str ⟨#[y]⟩)) .nil))) ⟨some (.at .me) :: loc, mkP pre t pre.length b k f6 f7 f8⟩ =
    some (t.head? != some y, mkP pre t pre.length b k f6 f7 f8) := by
  cases t with
  | nil => simp [evT, evE, evOr, selfIs, cmpV, truth, ab]
  | cons x t =>
    have h1 : ((pre.length : Int) == ((pre ++ x :: t).length : Int)) = false := beq_eq_false_iff_ne.mpr (by simp only [List.length_append, List.length_cons]; omega)
    have h3 : idxV (.at (.str (tx (pre ++ x :: t)))) (.at (.int pre.length)) = some (as (chr1 x)) := idx_tx (by simp only [small, decide_eq_true_eq]; omega) (by simp)
    have h4 : (some x != some y) = (x != y) := by simp [bne]
    simp only [List.head?_cons, h4]; unfold mkP; generalize ((pre ++ x :: t).length : Int) = M at h1 ⊢; generalize (pre ++ x :: t) = L at h3 ⊢; simp [evT, evE, evOr, selfIs, cmpV, truth, ab, ai, as, h1, h3, chr1_ne]
def unmark (x : Nat) : Nat := if x = 73 then 105 else if x = 89 then 121 else x
abbrev kPW : CB := (.cons (.assign 1 (.fld 1)) (.cons (.try 0 (.cons (.setf 4 (.fld 1)) (.cons (.assign 2 (.callM 0 8 (.cons (.cattr (.ofString "a_1")) .nil))) (.cons (.setf 5 (.fld 1)) (.cons (.ite (.cmp .eq (.var 2) (.int 1)) (.cons (.expr (.callM 0 11 (.cons (.str ⟨#[121]⟩) .nil))) .nil) (.cons (.ite (.cmp .eq (.var 2) (.int 2)) (.cons (.expr (.callM 0 11 (.cons (.str ⟨#[105]⟩) .nil))) .nil) (.cons (.ite (.cmp .ge (.fld 1) (.fld 2)) (.cons (.raise 0) .nil) .nil) (.cons (.augf 1 .add (.int 1)) .nil))) .nil)) (.cons .cont .nil)))))) (.cons (.setf 1 (.var 1)) (.cons .brk .nil))))
theorem S_cont {T : Tabs} {σ : AS} : evS T Γ N .cont σ = some (σ, .cont) := by rw [evS]
theorem S_brk {T : Tabs} {σ : AS} : evS T Γ N .brk σ = some (σ, .brk) := by rw [evS]
theorem fwd_P {A : Addr} {rows : List Row} (hs : (pre ++ t).length < 1000) (hT : TabOf A id rows) (h0 : 0 < rows.length) {p : Nat × Int} (h : fa rows t = some p) :
    cl (n + 1) 8 [.at .me, .at (.cst (.ref A))] (mkP pre t pre.length b k f6 f7 f8) = some (ai p.2, mkP pre t ((pre.length : Int) + p.1) b k f6 f7 f8) :=
  fwd_spec (l := pre ++ t) (c := pre.length) hs (by simp) hT h0 (by rw [List.drop_left]; exact h)
theorem post_loop : ∀ (t pre : List Nat) (M : Nat) (x1 x2 : Option AV) (b k : Int), okv x1 = true → okv x2 = true → (pre ++ t).length < 900 → t.length < M →
    ∃ (y1 y2 : Option AV) (c b' k' : Int), okv y1 = true ∧ okv y2 = true ∧ whileN (evT tabs (cl (n + 3)) (.bool true)) (fun σ => evB tabs (cl (n + 3)) 1000 kPW σ) M ⟨[some (.at .me), x1, x2], mkP pre t pre.length b k f6 f7 f8⟩ =
      some (⟨[some (.at .me), y1, y2], mkF (pre ++ t.map unmark) c (pre ++ t.map unmark).length 0 b' k' f6 f7 f8⟩, .next)
  | _, _, 0, _, _, _, _, _, _, _, h => by omega
  | t, pre, M + 1, x1, x2, b, k, o1, o2, hl, hM => by
    have hf := fwd_P (n := n + 2) (pre := pre) (t := t) (b := pre.length) (k := k) (f6 := f6) (f7 := f7) (f8 := f8) (by omega) tab1 (by decide) (fa_1 t)
    have ho : ∀ fl, hasOwn ⟨[some (.at .me), vI pre.length, x2], fl⟩ = false := by intro fl; simp [hasOwn_eq, o2]
    have h0 : evE tabs (cl (n + 3)) (.callM 0 8 (.cons (.cattr (.ofString "a_1")) .nil)) ⟨[some (.at .me), vI pre.length, x2], mkP pre t pre.length pre.length k f6 f7 f8⟩ = _ := E_callM rfl (A_cattr at_a1) rfl (ho _) hf
    have s1 : evS tabs (cl (n + 3)) 1000 (.assign 1 (.fld 1)) ⟨[some (.at .me), x1, x2], mkP pre t pre.length b k f6 f7 f8⟩ = some (⟨[some (.at .me), vI pre.length, x2], mkP pre t pre.length b k f6 f7 f8⟩, .next) := P_v (by simp [okSet_eq, o1])
    have s2 := fun z : Int => fun c : Int => fun h : evE tabs (cl (n + 3)) (.callM 0 8 (.cons (.cattr (.ofString "a_1")) .nil)) ⟨[some (.at .me), vI pre.length, x2], mkP pre t pre.length pre.length k f6 f7 f8⟩ = some (ai z, mkP pre t c pre.length k f6 f7 f8) => (S_assign (N := 1000) (i := 2) h rfl (by simp [okSet_eq, o2])).trans (show _ = some ((⟨[some (.at .me), vI pre.length, vI z], mkP pre t c pre.length k f6 f7 f8⟩ : AS), Out.next) from rfl)
    rcases t with _ | ⟨x, t⟩
    · have e1 : end1 [] = (0, 3) := rfl
      rw [e1] at h0
      have s3 := P_end (Γ := cl (n + 3)) (loc := [vI pre.length, vI 3]) (pre := pre) (t := []) (c := (pre.length : Int) + (0 : Nat)) (b := pre.length) (k := (pre.length : Int) + (0 : Nat)) (f6 := f6) (f7 := f7) (f8 := f8)
      refine ⟨vI pre.length, vI 3, pre.length, pre.length, (pre.length : Int) + (0 : Nat), rfl, rfl, ?_⟩; rw [while_brk (t_true _) ((B_next s1).trans ((B_next (S_tryx ((B_next P_bra).trans ((B_next (s2 3 _ h0)).trans ((B_next P_ket).trans (B_exc ((S_false (T_no rfl (by decide))).trans (B_exc ((S_false (T_no rfl (by decide))).trans (B_lab (T_val s3 (by simp)))))))))))).trans ((B_next (P_cur rfl)).trans (B_brk S_brk))))]; rfl
    · by_cases h1 : x = 89
      · subst h1
        have e1 : end1 (89 :: t) = (1, 1) := by simp [end1, List.isPrefixOf]
        rw [e1] at h0
        have hr := rep1 (n := n + 1) (pre := pre) (t := t) (x := 89) (z := 121) (c := pre.length + 1) (f6 := f6) (f7 := f7) (f8 := f8) hl (Nat.le_refl _)
        obtain ⟨y1, y2, c, b', k', q1, q2, ih⟩ := post_loop t (pre ++ [121]) M (vI pre.length) (vI 1) pre.length ((pre.length : Int) + 1) rfl rfl (by simp at hl ⊢; omega) (by simp at hM; omega); refine ⟨y1, y2, c, b', k', q1, q2, ?_⟩
        have h2 : evE tabs (cl (n + 3)) (.callM 0 11 (.cons (.str ⟨#[121]⟩) .nil)) ⟨[some (.at .me), vI pre.length, vI 1], mkP pre (89 :: t) ((pre.length : Int) + 1) pre.length ((pre.length : Int) + 1) f6 f7 f8⟩ = _ := E_callM rfl A_str rfl rfl hr
        rw [while_cont (t_true _) ((B_next s1).trans (B_cont (S_try ((B_next P_bra).trans ((B_next (s2 1 _ h0)).trans ((B_next P_ket).trans ((B_next ((S_true (T_yes rfl)).trans ((B_next (S_expr h2)).trans B_nil))).trans (B_cont S_cont))))) (by intro j h; cases h))))]
        have el : ((pre ++ [121]).length : Int) = ((pre.length + 1 : Nat) : Int) := by simp
        rw [el] at ih; refine ih.trans ?_; simp only [List.map_cons, List.append_assoc, List.cons_append, List.nil_append]; rfl
      by_cases h2 : x = 73
      · subst h2
        have e1 : end1 (73 :: t) = (1, 2) := by simp [end1, List.isPrefixOf]
        rw [e1] at h0
        have hr := rep1 (n := n + 1) (pre := pre) (t := t) (x := 73) (z := 105) (c := pre.length + 1) (f6 := f6) (f7 := f7) (f8 := f8) hl (Nat.le_refl _)
        obtain ⟨y1, y2, c, b', k', q1, q2, ih⟩ := post_loop t (pre ++ [105]) M (vI pre.length) (vI 2) pre.length ((pre.length : Int) + 1) rfl rfl (by simp at hl ⊢; omega) (by simp at hM; omega); refine ⟨y1, y2, c, b', k', q1, q2, ?_⟩
        have h2 : evE tabs (cl (n + 3)) (.callM 0 11 (.cons (.str ⟨#[105]⟩) .nil)) ⟨[some (.at .me), vI pre.length, vI 2], mkP pre (73 :: t) ((pre.length : Int) + 1) pre.length ((pre.length : Int) + 1) f6 f7 f8⟩ = _ := E_callM rfl A_str rfl rfl hr
        rw [while_cont (t_true _) ((B_next s1).trans (B_cont (S_try ((B_next P_bra).trans ((B_next (s2 2 _ h0)).trans ((B_next P_ket).trans ((B_next ((S_false (T_no rfl (by decide))).trans ((B_next ((S_true (T_yes rfl)).trans ((B_next (S_expr h2)).trans B_nil))).trans B_nil))).trans (B_cont S_cont))))) (by intro j h; cases h))))]
        have el : ((pre ++ [105]).length : Int) = ((pre.length + 1 : Nat) : Int) := by simp
        rw [el] at ih; refine ih.trans ?_; simp only [List.map_cons, List.append_assoc, List.cons_append, List.nil_append]; rfl
      · have e1 : end1 (x :: t) = (0, 3) := by
          have a1 : (73 == x) = false := beq_eq_false_iff_ne.mpr (Ne.symm h2)
          have a2 : (89 == x) = false := beq_eq_false_iff_ne.mpr (Ne.symm h1)
          simp [end1, List.isPrefixOf, a1, a2]
        rw [e1] at h0; obtain ⟨y1, y2, c, b', k', q1, q2, ih⟩ := post_loop t (pre ++ [x]) M (vI pre.length) (vI 3) pre.length ((pre.length : Int) + (0 : Nat)) rfl rfl (by simp at hl ⊢; omega) (by simp at hM; omega); refine ⟨y1, y2, c, b', k', q1, q2, ?_⟩
        have s3 := P_end (Γ := cl (n + 3)) (loc := [vI pre.length, vI 3]) (pre := pre) (t := x :: t) (c := (pre.length : Int) + (0 : Nat)) (b := pre.length) (k := (pre.length : Int) + (0 : Nat)) (f6 := f6) (f7 := f7) (f8 := f8)
        rw [while_cont (t_true _) ((B_next s1).trans (B_cont (S_try ((B_next P_bra).trans ((B_next (s2 3 _ h0)).trans ((B_next P_ket).trans ((B_next ((S_false (T_no rfl (by decide))).trans ((B_next ((S_false (T_no rfl (by decide))).trans ((B_skip (T_val s3 (by simp only [List.length_append, List.length_cons]; exact decide_eq_false (by omega)))).trans ((B_next P_inc).trans B_nil)))).trans B_nil))).trans (B_cont S_cont))))) (by intro j h; cases h))))]
        have el : ((pre ++ [x]).length : Int) = (pre.length : Int) + (0 : Nat) + 1 := by simp
        have eu : unmark x = x := by unfold unmark; rw [if_neg h2, if_neg h1]
        rw [el] at ih; simp only [mkP, List.append_assoc, List.cons_append, List.nil_append] at ih ⊢; refine ih.trans ?_; rw [List.map_cons, eu]
theorem postlude {l : List Nat} (hl : l.length < 900) : ∃ c b' k' : Int, cl (n + 4) 17 [.at .me] (mkF l 0 l.length 0 b k f6 f7 f8) = some (ab true, mkF (l.map unmark) c (l.map unmark).length 0 b' k' f6 f7 f8) := by
  obtain ⟨y1, y2, c, b', k', _, _, h⟩ := post_loop (n := n) (f6 := f6) (f7 := f7) (f8 := f8) l [] 1000 none none b k rfl rfl hl (by omega); refine ⟨c, b', k', ?_⟩; rw [cl_at (F := ⟨1, _, c_r_postlude⟩) rfl rfl]; show retOf (evB tabs (cl (n + 3)) 1000 (.cons (.while (.bool true) kPW) (.cons (.ret (.bool true)) .nil)) ⟨[some (.at .me), none, none], mkP [] l (([] : List Nat).length : Int) b k f6 f7 f8⟩) = _; rw [B_next (S_while.trans h), B_ret (S_ret (v := ab true) (by rw [evE]) rfl)]; rfl
end Mine
namespace Mine
variable {n : Nat} {pre t : List Nat} {b k : Int} {f6 f7 f8 : Option Atom} {Γ : Call} {N : Nat} {loc : List (Option AV)}
def headV : List Nat → Bool
  | [] => false
  | x :: _ => isV x
def mk : Bool → List Nat → List Nat
  | _, [] => []
  | bh, x :: t => if x = 121 ∧ bh = true then 89 :: mk false t else if x = 105 ∧ bh = true ∧ headV t = true then 73 :: mk false t else x :: mk (isV x) t
theorem mk_false (x : Nat) (t : List Nat) : mk false (x :: t) = x :: mk (isV x) t := by simp [mk]
theorem mk_skip : ∀ (u t : List Nat), (∀ x ∈ u, isV x = false) → mk false (u ++ t) = u ++ mk false t
  | [], t, _ => rfl
  | x :: u, t, h => by
    rw [List.cons_append, mk_false, h x (by simp), mk_skip u t (fun y hy => h y (by simp [hy]))]; rfl
theorem mk_quiet : ∀ (t : List Nat), headV t = false → mk true t = mk false t
  | [], _ => rfl
  | x :: t, h => by
    have hx : isV x = false := h
    have h1 : x ≠ 121 := by rintro rfl; simp [isV] at hx
    have h2 : x ≠ 105 := by rintro rfl; simp [isV] at hx
    simp [mk, h1, h2]
theorem mk_len : ∀ (bh : Bool) (t : List Nat), (mk bh t).length = t.length
  | _, [] => rfl
  | bh, x :: t => by
    unfold mk
    split
    · simp [mk_len false t]
    · split
      · simp [mk_len false t]
      · simp [mk_len (isV x) t]
abbrev tAt (y : Nat) : CE := (.or (.cons (.cmp .eq (.fld 1) (.fld 2)) (.cons (.cmp .ne (.idx (.fld 0) (.fld 1)) (.str ⟨#[y]⟩)) .nil)))
abbrev kT3 : CB := (.cons (.ite (.not (.callM 0 3 (.cons (.cattr (.ofString "g_v")) .nil))) (.cons (.raise 3) .nil) .nil) (.cons (.expr (.callM 0 11 (.cons (.str ⟨#[73]⟩) .nil))) .nil))
abbrev kT2 : CB := (.cons (.ite (tAt 105) (.cons (.raise 2) .nil) .nil) (.cons (.augf 1 .add (.int 1)) (.cons (.setf 5 (.fld 1)) (.cons (.assign 8 (.fld 1)) (.cons (.try 3 kT3) (.cons (.setf 1 (.var 8)) (.cons .brk .nil)))))))
abbrev kW2 : CB := (.cons (.assign 7 (.fld 1)) (.cons (.try 2 kT2) (.cons (.setf 1 (.var 7)) (.cons (.ite (tAt 121) (.cons (.setf 1 (.var 6)) (.cons (.raise 1) .nil)) .nil) (.cons (.augf 1 .add (.int 1)) (.cons (.setf 5 (.fld 1)) (.cons (.expr (.callM 0 11 (.cons (.str ⟨#[89]⟩) .nil))) (.cons .brk .nil))))))))
abbrev kT1 : CB := (.cons (.setf 4 (.fld 1)) (.cons (.while (.bool true) kW2) .nil))
abbrev kT0 : CB := (.cons (.ite (.not (.callM 0 5 (.cons (.cattr (.ofString "g_v")) .nil))) (.cons (.raise 0) .nil) .nil) (.cons (.augf 1 .add (.int 1)) (.cons (.assign 6 (.fld 1)) (.cons (.try 1 kT1) (.cons .cont .nil)))))
abbrev kW1 : CB := (.cons (.assign 5 (.fld 1)) (.cons (.try 0 kT0) (.cons (.setf 1 (.var 5)) (.cons .brk .nil))))
abbrev L5 (x2 x3 x5 x6 x7 x8 : Option AV) : List (Option AV) := [some (.at .me), vI 0, x2, x3, vI 0, x5, x6, x7, x8]
variable {x2 x3 x5 x6 x7 x8 : Option AV}
theorem own_L5 (o2 : okv x2 = true) (o3 : okv x3 = true) (o5 : okv x5 = true) (o6 : okv x6 = true) (o7 : okv x7 = true) (o8 : okv x8 = true) (fl : FL) : hasOwn ⟨L5 x2 x3 x5 x6 x7 x8, fl⟩ = false := by simp [hasOwn_eq, o2, o3, o5, o6, o7, o8]
theorem S_if {σ : AS} {te : CE} {A B : CB} {v : Bool} {fl : FL} (h : evT tabs Γ te σ = some (v, fl)) : evS tabs Γ N (.ite te A B) σ = if v then evB tabs Γ N A ⟨σ.loc, fl⟩ else evB tabs Γ N B ⟨σ.loc, fl⟩ := by
  cases v with
  | true => rw [S_true h]; rfl
  | false => rw [S_false h]; rfl
theorem try3 {t : List Nat} (o2 : okv x2 = true) (o3 : okv x3 = true) (o5 : okv x5 = true) (o6 : okv x6 = true) (o7 : okv x7 = true) (o8 : okv x8 = true) (hl : (pre ++ 105 :: t).length < 900) :
    ∃ (c b' k' : Int), evS tabs (cl (n + 3)) 1000 (.try 3 kT3) ⟨L5 x2 x3 x5 x6 x7 x8, mkP pre (105 :: t) ((pre.length : Int) + 1) pre.length ((pre.length : Int) + 1) f6 f7 f8⟩ =
      some (⟨L5 x2 x3 x5 x6 x7 x8, mkP (pre ++ [if headV t then 73 else 105]) t c b' k' f6 f7 f8⟩, .next) := by
  have ho := own_L5 o2 o3 o5 o6 o7 o8
  have ee : mkP pre (105 :: t) = mkP (pre ++ [105]) t := by funext c b k f6 f7 f8; simp only [mkP, List.append_assoc, List.cons_append, List.nil_append]
  rcases t with _ | ⟨y, t⟩
  · have h1 := in_grouping_end (n := n + 2) (l := pre ++ [105]) (lb := 0) (b := pre.length) (k := (pre.length : Int) + 1) (f6 := f6) (f7 := f7) (f8 := f8) (a := 230) (lim := (pre ++ [105]).length) (c := pre.length + 1) (by simp)
    have h2 : evT tabs (cl (n + 3)) (.not (.callM 0 3 (.cons (.cattr (.ofString "g_v")) .nil))) ⟨L5 x2 x3 x5 x6 x7 x8, mkP pre [105] ((pre.length : Int) + 1) pre.length ((pre.length : Int) + 1) f6 f7 f8⟩ = some (!false, mkP pre [105] ((pre.length : Int) + 1) pre.length ((pre.length : Int) + 1) f6 f7 f8) := T_not (T_of (E_callM rfl (A_cattr at_v) rfl (ho _) h1))
    refine ⟨(pre.length : Int) + 1, pre.length, (pre.length : Int) + 1, (S_tryx (B_lab h2)).trans ?_⟩; rw [ee]; rfl
  · have hc : (pre ++ 105 :: y :: t)[pre.length + 1]? = some y := by simp
    have h1 := in_grouping_at (n := n + 2) (l := pre ++ 105 :: y :: t) (lb := 0) (b := pre.length) (k := (pre.length : Int) + 1) (f6 := f6) (f7 := f7) (f8 := f8) (a := 230) (by rfl) (by simp only [small, decide_eq_true_eq]; omega) (lim := (pre ++ 105 :: y :: t).length) (c := pre.length + 1) (by simp) hc
    rw [set230] at h1
    cases hy : isV y with
    | false =>
      rw [hy] at h1
      have h2 : evT tabs (cl (n + 3)) (.not (.callM 0 3 (.cons (.cattr (.ofString "g_v")) .nil))) ⟨L5 x2 x3 x5 x6 x7 x8, mkP pre (105 :: y :: t) ((pre.length : Int) + 1) pre.length ((pre.length : Int) + 1) f6 f7 f8⟩ = some (!false, mkP pre (105 :: y :: t) ((pre.length : Int) + 1) pre.length ((pre.length : Int) + 1) f6 f7 f8) := T_not (T_of (E_callM rfl (A_cattr at_v) rfl (ho _) h1))
      refine ⟨(pre.length : Int) + 1, pre.length, (pre.length : Int) + 1, (S_tryx (B_lab h2)).trans ?_⟩; rw [ee]; simp only [headV, hy]; rfl
    | true =>
      rw [hy] at h1
      have h2 : evT tabs (cl (n + 3)) (.not (.callM 0 3 (.cons (.cattr (.ofString "g_v")) .nil))) ⟨L5 x2 x3 x5 x6 x7 x8, mkP pre (105 :: y :: t) ((pre.length : Int) + 1) pre.length ((pre.length : Int) + 1) f6 f7 f8⟩ = some (!true, mkP pre (105 :: y :: t) ((pre.length + 1 + 1 : Nat) : Int) pre.length ((pre.length : Int) + 1) f6 f7 f8) := T_not (T_of (E_callM rfl (A_cattr at_v) rfl (ho _) h1))
      have hr := rep1 (n := n + 1) (pre := pre) (t := y :: t) (x := 105) (z := 73) (c := pre.length + 1 + 1) (f6 := f6) (f7 := f7) (f8 := f8) hl (by omega)
      refine ⟨((pre.length + 1 + 1 : Nat) : Int), pre.length, (pre.length : Int) + 1, (S_try ((B_skip h2).trans ((B_next (S_expr (E_callM rfl A_str rfl (ho _) hr))).trans B_nil)) (by intro j h; cases h)).trans ?_⟩; simp only [headV, hy]; rfl
theorem try1 (o2 : okv x2 = true) (o3 : okv x3 = true) (o5 : okv x5 = true) (o7 : okv x7 = true) (o8 : okv x8 = true) (hl : (pre ++ t).length < 900) :
    ∃ (y7 y8 : Option AV) (pre' t' : List Nat) (b' k' : Int), okv y7 = true ∧ okv y8 = true ∧ pre' ++ mk false t' = pre ++ mk true t ∧ t'.length ≤ t.length ∧ (pre' ++ t').length = (pre ++ t).length ∧
      evS tabs (cl (n + 3)) 1000 (.try 1 kT1) ⟨L5 x2 x3 x5 (vI pre.length) x7 x8, mkP pre t pre.length b k f6 f7 f8⟩ = some (⟨L5 x2 x3 x5 (vI pre.length) y7 y8, mkP pre' t' pre'.length b' k' f6 f7 f8⟩, .next) := by
  have s7 : evS tabs (cl (n + 3)) 1000 (.assign 7 (.fld 1)) ⟨L5 x2 x3 x5 (vI pre.length) x7 x8, mkP pre t pre.length pre.length k f6 f7 f8⟩ = some (⟨L5 x2 x3 x5 (vI pre.length) (vI pre.length) x8, mkP pre t pre.length pre.length k f6 f7 f8⟩, .next) := P_v (by simp [okSet_eq, o7])
  have ti := T_at (Γ := cl (n + 3)) (loc := (L5 x2 x3 x5 (vI pre.length) (vI pre.length) x8).tail) (pre := pre) (t := t) (b := pre.length) (k := k) (f6 := f6) (f7 := f7) (f8 := f8) (y := 105) (by omega)
  have ty := T_at (Γ := cl (n + 3)) (loc := (L5 x2 x3 x5 (vI pre.length) (vI pre.length) x8).tail) (pre := pre) (t := t) (b := pre.length) (k := k) (f6 := f6) (f7 := f7) (f8 := f8) (y := 121) (by omega)
  by_cases h1 : t.head? = some 105
  · obtain ⟨t', rfl⟩ : ∃ t', t = 105 :: t' := by
      cases t with
      | nil => simp at h1
      | cons x t' => simp at h1; exact ⟨t', by rw [h1]⟩
    obtain ⟨c, b', k', h3⟩ := try3 (n := n) (pre := pre) (t := t') (f6 := f6) (f7 := f7) (f8 := f8) (x2 := x2) (x3 := x3) (x5 := x5) (x6 := vI pre.length) (x7 := vI pre.length) (x8 := vI ((pre.length : Int) + 1)) o2 o3 o5 rfl rfl rfl hl
    have s8 : evS tabs (cl (n + 3)) 1000 (.assign 8 (.fld 1)) ⟨L5 x2 x3 x5 (vI pre.length) (vI pre.length) x8, mkP pre (105 :: t') ((pre.length : Int) + 1) pre.length ((pre.length : Int) + 1) f6 f7 f8⟩ = some (⟨L5 x2 x3 x5 (vI pre.length) (vI pre.length) (vI ((pre.length : Int) + 1)), mkP pre (105 :: t') ((pre.length : Int) + 1) pre.length ((pre.length : Int) + 1) f6 f7 f8⟩, .next) := P_v (by simp [okSet_eq, o8])
    refine ⟨vI pre.length, vI ((pre.length : Int) + 1), pre ++ [if headV t' then 73 else 105], t', b', k', rfl, rfl, ?_, by simp, by simp, ?_⟩
    · cases hh : headV t' with
      | true => simp [mk, hh]
      | false =>
        have : mk true (105 :: t') = 105 :: mk true t' := by simp [mk, hh, show isV 105 = true from rfl]
        rw [this, mk_quiet t' hh]; simp
    · have el : ((pre ++ [if headV t' then 73 else 105]).length : Int) = (pre.length : Int) + 1 := by simp
      rw [el]; refine S_try ((B_next P_bra).trans ((B_next (S_while.trans (while_brk (t_true _) ((B_next s7).trans (B_brk (S_try ((B_skip (T_val ti (by simp))).trans ((B_next P_inc).trans ((B_next P_ket).trans ((B_next s8).trans ((B_next h3).trans ((B_next (P_cur rfl)).trans (B_brk S_brk))))))) (by intro j h; cases h))))))).trans B_nil)) (by intro j h; cases h)
  · have e2 : evS tabs (cl (n + 3)) 1000 (.try 2 kT2) ⟨L5 x2 x3 x5 (vI pre.length) (vI pre.length) x8, mkP pre t pre.length pre.length k f6 f7 f8⟩ = some (⟨L5 x2 x3 x5 (vI pre.length) (vI pre.length) x8, mkP pre t pre.length pre.length k f6 f7 f8⟩, .next) := S_tryx (B_lab (T_val ti (by simpa using h1)))
    by_cases h2 : t.head? = some 121
    · obtain ⟨t', rfl⟩ : ∃ t', t = 121 :: t' := by
        cases t with
        | nil => simp at h2
        | cons x t' => simp at h2; exact ⟨t', by rw [h2]⟩
      have hr := rep1 (n := n + 1) (pre := pre) (t := t') (x := 121) (z := 89) (c := pre.length + 1) (f6 := f6) (f7 := f7) (f8 := f8) hl (by omega)
      refine ⟨vI pre.length, x8, pre ++ [89], t', pre.length, (pre.length : Int) + 1, rfl, o8, ?_, by simp, by simp, ?_⟩
      · simp [mk]
      · have el : ((pre ++ [89]).length : Int) = ((pre.length + 1 : Nat) : Int) := by simp
        rw [el]
        have h4 : evE tabs (cl (n + 3)) (.callM 0 11 (.cons (.str ⟨#[89]⟩) .nil)) ⟨L5 x2 x3 x5 (vI pre.length) (vI pre.length) x8, mkP pre (121 :: t') ((pre.length : Int) + 1) pre.length ((pre.length : Int) + 1) f6 f7 f8⟩ = _ := E_callM rfl A_str rfl (own_L5 o2 o3 o5 rfl rfl o8 _) hr
        refine S_try ((B_next P_bra).trans ((B_next (S_while.trans (while_brk (t_true _) ((B_next s7).trans ((B_next e2).trans ((B_next (P_cur rfl)).trans ((B_skip (T_val ty (by simp))).trans ((B_next P_inc).trans ((B_next P_ket).trans ((B_next (S_expr h4)).trans (B_brk S_brk))))))))))).trans B_nil)) (by intro j h; cases h)
    · refine ⟨vI pre.length, x8, pre, t, pre.length, k, rfl, o8, ?_, Nat.le_refl _, rfl, ?_⟩
      · cases t with
        | nil => rfl
        | cons x t' =>
          have q1 : x ≠ 105 := by simpa using h1
          have q2 : x ≠ 121 := by simpa using h2
          simp [mk, q1, q2]
      · refine S_tryx ((B_next P_bra).trans (B_exc (S_while.trans (while_exc (t_true _) ((B_next s7).trans ((B_next e2).trans ((B_next (P_cur rfl)).trans (B_exc ((S_true (T_val ty (by simpa using h2))).trans ((B_next (P_cur rfl)).trans B_raise))))))))))
theorem find_split (p : Nat → Bool) : ∀ t : List Nat, (t.findIdx? p = none ∧ ∀ x ∈ t, p x = false) ∨ ∃ u v t', t = u ++ v :: t' ∧ t.findIdx? p = some u.length ∧ (∀ x ∈ u, p x = false) ∧ p v = true
  | [] => .inl ⟨rfl, by simp⟩
  | x :: t => by
    cases hx : p x with
    | true => exact .inr ⟨[], x, t, rfl, by simp [List.findIdx?_cons, hx], by simp, hx⟩
    | false =>
      rcases find_split p t with ⟨h1, h2⟩ | ⟨u, v, t', h1, h2, h3, h4⟩
      · refine .inl ⟨by simp [List.findIdx?_cons, hx, h1], ?_⟩
        intro y hy
        rcases List.mem_cons.mp hy with rfl | hy
        · exact hx
        · exact h2 y hy
      · refine .inr ⟨x :: u, v, t', by rw [h1]; rfl, by simp [List.findIdx?_cons, hx, h2], ?_, h4⟩
        intro y hy
        rcases List.mem_cons.mp hy with rfl | hy
        · exact hx
        · exact h3 y hy
theorem out_P (hl : (pre ++ t).length < 1000) : cl (n + 1) 5 [.at .me, .at (.cst (.ref 230))] (mkP pre t pre.length b k f6 f7 f8) =
    match t.findIdx? isV with
    | some i => some (ab true, mkP pre t ((pre.length + i : Nat) : Int) b k f6 f7 f8)
    | none => some (ab false, mkP pre t (pre ++ t).length b k f6 f7 f8) := by
  have h := go_out_spec (n := n) (l := pre ++ t) (lb := 0) (b := b) (k := k) (f6 := f6) (f7 := f7) (f8 := f8) (a := 230) (by rfl) hl (c := pre.length) (by simp)
  rw [List.drop_left, show inSet 230 = isV from funext set230] at h; exact h
theorem mark_loop : ∀ (m : Nat) (t pre : List Nat) (M : Nat) (x5 x6 x7 x8 : Option AV) (b k : Int), t.length ≤ m → okv x2 = true → okv x3 = true → okv x5 = true → okv x6 = true → okv x7 = true → okv x8 = true → (pre ++ t).length < 900 → m + 1 < M →
    ∃ (L : List (Option AV)) (c b' k' : Int), whileN (evT tabs (cl (n + 3)) (.bool true)) (fun σ => evB tabs (cl (n + 3)) 1000 kW1 σ) M ⟨L5 x2 x3 x5 x6 x7 x8, mkP pre t pre.length b k f6 f7 f8⟩ =
      some (⟨L, mkF (pre ++ mk false t) c (pre ++ mk false t).length 0 b' k' f6 f7 f8⟩, .next)
  | m, t, pre, 0, _, _, _, _, _, _, _, _, _, _, _, _, _, _, h => by omega
  | m, t, pre, M + 1, x5, x6, x7, x8, b, k, hm, o2, o3, o5, o6, o7, o8, hl, hM => by
    have s5 : evS tabs (cl (n + 3)) 1000 (.assign 5 (.fld 1)) ⟨L5 x2 x3 x5 x6 x7 x8, mkP pre t pre.length b k f6 f7 f8⟩ = some (⟨L5 x2 x3 (vI pre.length) x6 x7 x8, mkP pre t pre.length b k f6 f7 f8⟩, .next) := P_v (by simp [okSet_eq, o5])
    have hg := out_P (n := n + 2) (pre := pre) (t := t) (b := b) (k := k) (f6 := f6) (f7 := f7) (f8 := f8) (by omega)
    have ho := fun fl => own_L5 (fl := fl) o2 o3 (show okv (vI pre.length) = true from rfl) o6 o7 o8
    rcases find_split isV t with ⟨h1, h2⟩ | ⟨u, v, t', h1, h2, h3, h4⟩
    · rw [h1] at hg
      have ht : evT tabs (cl (n + 3)) (.not (.callM 0 5 (.cons (.cattr (.ofString "g_v")) .nil))) ⟨L5 x2 x3 (vI pre.length) x6 x7 x8, mkP pre t pre.length b k f6 f7 f8⟩ = some (!false, mkP pre t (pre ++ t).length b k f6 f7 f8) := T_not (T_of (E_callM rfl (A_cattr at_v) rfl (ho _) hg))
      have hq : mk false t = t := by
        have := mk_skip t [] h2
        simpa [mk] using this
      refine ⟨L5 x2 x3 (vI pre.length) x6 x7 x8, pre.length, b, k, ?_⟩; rw [hq]; exact while_brk (t_true _) ((B_next s5).trans ((B_next (S_tryx (B_lab ht))).trans ((B_next (P_cur rfl)).trans (B_brk S_brk))))
    · rw [h2] at hg
      have ht : evT tabs (cl (n + 3)) (.not (.callM 0 5 (.cons (.cattr (.ofString "g_v")) .nil))) ⟨L5 x2 x3 (vI pre.length) x6 x7 x8, mkP pre t pre.length b k f6 f7 f8⟩ = some (!true, mkP pre t ((pre.length + u.length : Nat) : Int) b k f6 f7 f8) := T_not (T_of (E_callM rfl (A_cattr at_v) rfl (ho _) hg))
      have ep : pre ++ t = (pre ++ u ++ [v]) ++ t' := by rw [h1]; simp
      have el : ((pre.length + u.length : Nat) : Int) + 1 = ((pre ++ u ++ [v]).length : Int) := by simp only [List.length_append, List.length_cons, List.length_nil]; omega
      have s6 : evS tabs (cl (n + 3)) 1000 (.assign 6 (.fld 1)) ⟨L5 x2 x3 (vI pre.length) x6 x7 x8, mkP (pre ++ u ++ [v]) t' (pre ++ u ++ [v]).length b k f6 f7 f8⟩ = some (⟨L5 x2 x3 (vI pre.length) (vI (pre ++ u ++ [v]).length) x7 x8, mkP (pre ++ u ++ [v]) t' (pre ++ u ++ [v]).length b k f6 f7 f8⟩, .next) := P_v (by simp [okSet_eq, o6])
      have ee : ∀ c : Int, mkP pre t c b k f6 f7 f8 = mkP (pre ++ u ++ [v]) t' c b k f6 f7 f8 := by intro c; simp only [mkP, ep]
      obtain ⟨y7, y8, pre', t'', b', k', q7, q8, g1, g2, g3, g4⟩ := try1 (n := n) (pre := pre ++ u ++ [v]) (t := t') (b := b) (k := k) (f6 := f6) (f7 := f7) (f8 := f8) (x2 := x2) (x3 := x3) (x5 := vI pre.length) (x7 := x7) (x8 := x8) o2 o3 rfl o7 o8 (by rw [← ep]; exact hl)
      have hlt : t'.length < t.length := by rw [h1]; simp; omega
      have hm1 : 1 ≤ m := by omega
      obtain ⟨L, c, b2, k2, ih⟩ := mark_loop (m - 1) t'' pre' M (vI pre.length) (vI (pre ++ u ++ [v]).length) y7 y8 b' k' (by omega) o2 o3 rfl rfl q7 q8 (by rw [g3, ← ep]; exact hl) (by omega)
      have hq : pre ++ mk false t = pre' ++ mk false t'' := by
        rw [g1, h1, mk_skip u _ h3, mk_false, h4]; simp
      refine ⟨L, c, b2, k2, ?_⟩; rw [hq]; refine (while_cont (t_true _) ((B_next s5).trans (B_cont (S_try ((B_skip ht).trans ((B_next P_inc).trans ?_)) (by intro j h; cases h))))).trans ih; rw [el, ee]; exact (B_next s6).trans ((B_next g4).trans (B_cont S_cont))
  termination_by m => m
  decreasing_by omega
end Mine
namespace Mine
variable {n : Nat} {pre t : List Nat} {b k : Int} {f6 f7 f8 : Option Atom} {Γ : Call} {N : Nat} {loc : List (Option AV)}
theorem B_one {T : Tabs} {s : CS} {σ : AS} : evB T Γ N (.cons s .nil) σ = evS T Γ N s σ := by
  rw [evB]
  cases h : evS T Γ N s σ with
  | none => rfl
  | some p =>
    obtain ⟨σ', o⟩ := p
    cases o <;> first | rfl | (rw [evB])
def bare (x : Nat) : Nat := if x = 225 ∨ x = 228 then 97 else if x = 233 ∨ x = 235 then 101 else if x = 237 ∨ x = 239 then 105 else if x = 243 ∨ x = 246 then 111 else if x = 250 ∨ x = 252 then 117 else x
theorem end0_cases (x : Nat) (t : List Nat) : ((end0 (x :: t) = (1, 1) ∧ bare x = 97) ∨ (end0 (x :: t) = (1, 2) ∧ bare x = 101) ∨ (end0 (x :: t) = (1, 3) ∧ bare x = 105) ∨ (end0 (x :: t) = (1, 4) ∧ bare x = 111) ∨ (end0 (x :: t) = (1, 5) ∧ bare x = 117)) ∨ (end0 (x :: t) = (0, 6) ∧ bare x = x) := by
  by_cases h1 : x = 225
  · subst h1; simp [end0, List.isPrefixOf, bare]
  by_cases h2 : x = 228
  · subst h2; simp [end0, List.isPrefixOf, bare]
  by_cases h3 : x = 233
  · subst h3; simp [end0, List.isPrefixOf, bare]
  by_cases h4 : x = 235
  · subst h4; simp [end0, List.isPrefixOf, bare]
  by_cases h5 : x = 237
  · subst h5; simp [end0, List.isPrefixOf, bare]
  by_cases h6 : x = 239
  · subst h6; simp [end0, List.isPrefixOf, bare]
  by_cases h7 : x = 243
  · subst h7; simp [end0, List.isPrefixOf, bare]
  by_cases h8 : x = 246
  · subst h8; simp [end0, List.isPrefixOf, bare]
  by_cases h9 : x = 250
  · subst h9; simp [end0, List.isPrefixOf, bare]
  by_cases h10 : x = 252
  · subst h10; simp [end0, List.isPrefixOf, bare]
  refine .inr ⟨?_, ?_⟩
  · have q : ∀ y : Nat, x ≠ y → (y == x) = false := fun y h => beq_eq_false_iff_ne.mpr (Ne.symm h)
    simp [end0, List.isPrefixOf, q _ h1, q _ h2, q _ h3, q _ h4, q _ h5, q _ h6, q _ h7, q _ h8, q _ h9, q _ h10]
  · simp [bare, h1, h2, h3, h4, h5, h6, h7, h8, h9, h10]
abbrev sl (w : Nat) : CS := .expr (.callM 0 11 (.cons (.str ⟨#[w]⟩) .nil))
abbrev kIT0 : CS := (.ite (.cmp .eq (.var 3) (.int 1)) (.cons (sl 97) .nil) (.cons (.ite (.cmp .eq (.var 3) (.int 2)) (.cons (sl 101) .nil) (.cons (.ite (.cmp .eq (.var 3) (.int 3)) (.cons (sl 105) .nil) (.cons (.ite (.cmp .eq (.var 3) (.int 4)) (.cons (sl 111) .nil) (.cons (.ite (.cmp .eq (.var 3) (.int 5)) (.cons (sl 117) .nil) (.cons (.ite (.cmp .ge (.fld 1) (.fld 2)) (.cons (.raise 0) .nil) .nil) (.cons (.augf 1 .add (.int 1)) .nil))) .nil)) .nil)) .nil)) .nil))
abbrev kW0 : CB := (.cons (.assign 2 (.fld 1)) (.cons (.try 0 (.cons (.setf 4 (.fld 1)) (.cons (.assign 3 (.callM 0 8 (.cons (.cattr (.ofString "a_0")) .nil))) (.cons (.setf 5 (.fld 1)) (.cons kIT0 (.cons .cont .nil)))))) (.cons (.setf 1 (.var 2)) (.cons .brk .nil))))
theorem it1 {σ : AS} (h : σ.loc[3]? = some (vI 1)) : evS tabs Γ N kIT0 σ = evS tabs Γ N (sl 97) σ := by
  rw [S_true (T_yes h), B_one]
theorem it2 {σ : AS} (h : σ.loc[3]? = some (vI 2)) : evS tabs Γ N kIT0 σ = evS tabs Γ N (sl 101) σ := by
  rw [S_false (T_no h (by decide)), B_one, S_true (T_yes h), B_one]
theorem it3 {σ : AS} (h : σ.loc[3]? = some (vI 3)) : evS tabs Γ N kIT0 σ = evS tabs Γ N (sl 105) σ := by
  rw [S_false (T_no h (by decide)), B_one, S_false (T_no h (by decide)), B_one, S_true (T_yes h), B_one]
theorem it4 {σ : AS} (h : σ.loc[3]? = some (vI 4)) : evS tabs Γ N kIT0 σ = evS tabs Γ N (sl 111) σ := by
  rw [S_false (T_no h (by decide)), B_one, S_false (T_no h (by decide)), B_one, S_false (T_no h (by decide)), B_one, S_true (T_yes h), B_one]
theorem it5 {σ : AS} (h : σ.loc[3]? = some (vI 5)) : evS tabs Γ N kIT0 σ = evS tabs Γ N (sl 117) σ := by
  rw [S_false (T_no h (by decide)), B_one, S_false (T_no h (by decide)), B_one, S_false (T_no h (by decide)), B_one, S_false (T_no h (by decide)), B_one, S_true (T_yes h), B_one]
theorem it6 {σ : AS} (h : σ.loc[3]? = some (vI 6)) : evS tabs Γ N kIT0 σ = evB tabs Γ N (.cons (.ite (.cmp .ge (.fld 1) (.fld 2)) (.cons (.raise 0) .nil) .nil) (.cons (.augf 1 .add (.int 1)) .nil)) σ := by
  rw [S_false (T_no h (by decide)), B_one, S_false (T_no h (by decide)), B_one, S_false (T_no h (by decide)), B_one, S_false (T_no h (by decide)), B_one, S_false (T_no h (by decide))]
abbrev L0 (x2 x3 : Option AV) : List (Option AV) := [some (.at .me), vI 0, x2, x3, none, none, none, none, none]
theorem bare_loop : ∀ (t pre : List Nat) (M : Nat) (x2 x3 : Option AV) (b k : Int), okv x2 = true → okv x3 = true → (pre ++ t).length < 900 → t.length < M →
    ∃ (y2 y3 : Option AV) (c b' k' : Int), okv y2 = true ∧ okv y3 = true ∧ whileN (evT tabs (cl (n + 3)) (.bool true)) (fun σ => evB tabs (cl (n + 3)) 1000 kW0 σ) M ⟨L0 x2 x3, mkP pre t pre.length b k f6 f7 f8⟩ =
      some (⟨L0 y2 y3, mkF (pre ++ t.map bare) c (pre ++ t.map bare).length 0 b' k' f6 f7 f8⟩, .next)
  | _, _, 0, _, _, _, _, _, _, _, h => by omega
  | t, pre, M + 1, x2, x3, b, k, o2, o3, hl, hM => by
    have hf := fwd_P (n := n + 2) (pre := pre) (t := t) (b := pre.length) (k := k) (f6 := f6) (f7 := f7) (f8 := f8) (by omega) tab0 (by decide) (fa_0 t)
    have ho : ∀ fl, hasOwn ⟨L0 (vI pre.length) x3, fl⟩ = false := by intro fl; simp [hasOwn_eq, o3]
    have h0 : evE tabs (cl (n + 3)) (.callM 0 8 (.cons (.cattr (.ofString "a_0")) .nil)) ⟨L0 (vI pre.length) x3, mkP pre t pre.length pre.length k f6 f7 f8⟩ = _ := E_callM rfl (A_cattr at_a0) rfl (ho _) hf
    have s1 : evS tabs (cl (n + 3)) 1000 (.assign 2 (.fld 1)) ⟨L0 x2 x3, mkP pre t pre.length b k f6 f7 f8⟩ = some (⟨L0 (vI pre.length) x3, mkP pre t pre.length b k f6 f7 f8⟩, .next) := P_v (by simp [okSet_eq, o2])
    have s2 := fun z : Int => fun c : Int => fun h : evE tabs (cl (n + 3)) (.callM 0 8 (.cons (.cattr (.ofString "a_0")) .nil)) ⟨L0 (vI pre.length) x3, mkP pre t pre.length pre.length k f6 f7 f8⟩ = some (ai z, mkP pre t c pre.length k f6 f7 f8) => (S_assign (N := 1000) (i := 3) h rfl (by simp [okSet_eq, o3])).trans (show _ = some ((⟨L0 (vI pre.length) (vI z), mkP pre t c pre.length k f6 f7 f8⟩ : AS), Out.next) from rfl)
    rcases t with _ | ⟨x, t⟩
    · have e1 : end0 [] = (0, 6) := rfl
      rw [e1] at h0
      have s3 := P_end (Γ := cl (n + 3)) (loc := (L0 (vI pre.length) (vI 6)).tail) (pre := pre) (t := []) (c := (pre.length : Int) + (0 : Nat)) (b := pre.length) (k := (pre.length : Int) + (0 : Nat)) (f6 := f6) (f7 := f7) (f8 := f8)
      refine ⟨vI pre.length, vI 6, pre.length, pre.length, (pre.length : Int) + (0 : Nat), rfl, rfl, ?_⟩; rw [while_brk (t_true _) ((B_next s1).trans ((B_next (S_tryx ((B_next P_bra).trans ((B_next (s2 6 _ h0)).trans ((B_next P_ket).trans (B_exc ((it6 rfl).trans (B_lab (T_val s3 (by simp)))))))))).trans ((B_next (P_cur rfl)).trans (B_brk S_brk))))]; rfl
    · rcases end0_cases x t with hz | ⟨e1, e2⟩
      · have fin : ∀ (z : Int) (w : Nat), end0 (x :: t) = (1, z) → bare x = w → (∀ fl, evS tabs (cl (n + 3)) 1000 kIT0 ⟨L0 (vI pre.length) (vI z), fl⟩ = evS tabs (cl (n + 3)) 1000 (sl w) ⟨L0 (vI pre.length) (vI z), fl⟩) →
            ∃ (y2 y3 : Option AV) (c b' k' : Int), okv y2 = true ∧ okv y3 = true ∧ whileN (evT tabs (cl (n + 3)) (.bool true)) (fun σ => evB tabs (cl (n + 3)) 1000 kW0 σ) (M + 1) ⟨L0 x2 x3, mkP pre (x :: t) pre.length b k f6 f7 f8⟩ =
              some (⟨L0 y2 y3, mkF (pre ++ (x :: t).map bare) c (pre ++ (x :: t).map bare).length 0 b' k' f6 f7 f8⟩, .next) := by
          intro z w e1 e2 e3
          rw [e1] at h0
          have hr := rep1 (n := n + 1) (pre := pre) (t := t) (x := x) (z := w) (c := pre.length + 1) (f6 := f6) (f7 := f7) (f8 := f8) hl (Nat.le_refl _)
          obtain ⟨y1, y2, c, b', k', q1, q2, ih⟩ := bare_loop t (pre ++ [w]) M (vI pre.length) (vI z) pre.length ((pre.length : Int) + 1) rfl rfl (by simp at hl ⊢; omega) (by simp at hM; omega); refine ⟨y1, y2, c, b', k', q1, q2, ?_⟩
          have h2 : evE tabs (cl (n + 3)) (.callM 0 11 (.cons (.str ⟨#[w]⟩) .nil)) ⟨L0 (vI pre.length) (vI z), mkP pre (x :: t) ((pre.length : Int) + 1) pre.length ((pre.length : Int) + 1) f6 f7 f8⟩ = _ := E_callM rfl A_str rfl rfl hr
          rw [while_cont (t_true _) ((B_next s1).trans (B_cont (S_try ((B_next P_bra).trans ((B_next (s2 z _ h0)).trans ((B_next P_ket).trans ((B_next ((e3 _).trans (S_expr h2))).trans (B_cont S_cont))))) (by intro j h; cases h))))]
          have el : ((pre ++ [w]).length : Int) = ((pre.length + 1 : Nat) : Int) := by simp
          rw [el] at ih; refine ih.trans ?_; rw [List.map_cons, e2]; simp only [List.append_assoc, List.cons_append, List.nil_append]
        rcases hz with ⟨e1, e2⟩ | ⟨e1, e2⟩ | ⟨e1, e2⟩ | ⟨e1, e2⟩ | ⟨e1, e2⟩
        · exact fin 1 97 e1 e2 (fun fl => it1 rfl)
        · exact fin 2 101 e1 e2 (fun fl => it2 rfl)
        · exact fin 3 105 e1 e2 (fun fl => it3 rfl)
        · exact fin 4 111 e1 e2 (fun fl => it4 rfl)
        · exact fin 5 117 e1 e2 (fun fl => it5 rfl)
      · rw [e1] at h0
        obtain ⟨y1, y2, c, b', k', q1, q2, ih⟩ := bare_loop t (pre ++ [x]) M (vI pre.length) (vI 6) pre.length ((pre.length : Int) + (0 : Nat)) rfl rfl (by simp at hl ⊢; omega) (by simp at hM; omega); refine ⟨y1, y2, c, b', k', q1, q2, ?_⟩
        have s3 := P_end (Γ := cl (n + 3)) (loc := (L0 (vI pre.length) (vI 6)).tail) (pre := pre) (t := x :: t) (c := (pre.length : Int) + (0 : Nat)) (b := pre.length) (k := (pre.length : Int) + (0 : Nat)) (f6 := f6) (f7 := f7) (f8 := f8)
        rw [while_cont (t_true _) ((B_next s1).trans (B_cont (S_try ((B_next P_bra).trans ((B_next (s2 6 _ h0)).trans ((B_next P_ket).trans ((B_next ((it6 rfl).trans ((B_skip (T_val s3 (by simp only [List.length_append, List.length_cons]; exact decide_eq_false (by omega)))).trans ((B_next P_inc).trans B_nil)))).trans (B_cont S_cont))))) (by intro j h; cases h))))]
        have el : ((pre ++ [x]).length : Int) = (pre.length : Int) + (0 : Nat) + 1 := by simp
        rw [el] at ih; simp only [mkP, List.append_assoc, List.cons_append, List.nil_append] at ih ⊢; refine ih.trans ?_; rw [List.map_cons, e2]
def marked (l : List Nat) : List Nat :=
  match l.map bare with
  | [] => []
  | x :: t => if x = 121 then 89 :: mk false t else mk false (x :: t)
theorem marked_len (l : List Nat) : (marked l).length = l.length := by
  unfold marked
  have : (l.map bare).length = l.length := List.length_map ..
  split
  · rename_i h; rw [h] at this; exact this
  · rename_i h; rw [h] at this; split
    · simpa [mk_len] using this
    · rw [mk_len]; exact this
theorem prelude {l : List Nat} (hl : l.length < 900) : ∃ c b' k' : Int, cl (n + 4) 15 [.at .me] (mkF l 0 l.length 0 b k f6 f7 f8) = some (ab true, mkF (marked l) c (marked l).length 0 b' k' f6 f7 f8) := by
  obtain ⟨y2, y3, c, b1, k1, o2, o3, h⟩ := bare_loop (n := n) (f6 := f6) (f7 := f7) (f8 := f8) l [] 1000 none none b k rfl rfl hl (by omega); rw [cl_at (F := ⟨1, _, c_r_prelude⟩) rfl rfl]; show ∃ c b' k' : Int, retOf (evB tabs (cl (n + 3)) 1000 (.cons (.assign 1 (.fld 1)) (.cons (.while (.bool true) kW0) (.cons (.setf 1 (.var 1)) (.cons (.assign 4 (.fld 1)) (.cons (.try 0 (.cons (.setf 4 (.fld 1)) (.cons (.ite (tAt 121) (.cons (.setf 1 (.var 4)) (.cons (.raise 0) .nil)) .nil) (.cons (.augf 1 .add (.int 1)) (.cons (.setf 5 (.fld 1)) (.cons (sl 89) .nil)))))) (.cons (.while (.bool true) kW1) (.cons (.ret (.bool true)) .nil))))))) ⟨[some (.at .me), none, none, none, none, none, none, none, none], mkP [] l (([] : List Nat).length : Int) b k f6 f7 f8⟩) = _; rw [B_next (σ' := ⟨L0 none none, mkP [] l (([] : List Nat).length : Int) b k f6 f7 f8⟩) (P_v rfl), B_next (S_while.trans h)]
  have hlen : (l.map bare).length = l.length := List.length_map ..
  unfold marked; generalize l.map bare = m at hlen
  have hm : m.length < 900 := by omega
  show ∃ c' b' k' : Int, retOf (evB tabs (cl (n + 3)) 1000 _ ⟨L0 y2 y3, mkP [] m c b1 k1 f6 f7 f8⟩) = _
  rw [B_next (P_cur (z := 0) rfl)]; rw [B_next (σ' := ⟨[some (.at .me), vI 0, y2, y3, vI 0, none, none, none, none], mkP [] m (([] : List Nat).length : Int) b1 k1 f6 f7 f8⟩) (P_v rfl)]
  have ty := T_at (Γ := cl (n + 3)) (loc := [vI 0, y2, y3, vI 0, none, none, none, none]) (pre := []) (t := m) (b := (([] : List Nat).length : Int)) (k := k1) (f6 := f6) (f7 := f7) (f8 := f8) (y := 121) (by simp; omega)
  by_cases hy : m.head? = some 121
  · obtain ⟨t', rfl⟩ : ∃ t', m = 121 :: t' := by
      cases m with
      | nil => simp at hy
      | cons x t' => simp at hy; exact ⟨t', by rw [hy]⟩
    have hr := rep1 (n := n + 1) (pre := []) (t := t') (x := 121) (z := 89) (c := 0 + 1) (f6 := f6) (f7 := f7) (f8 := f8) hm (by simp)
    have ho : ∀ fl, hasOwn ⟨[some (.at .me), vI 0, y2, y3, vI 0, none, none, none, none], fl⟩ = false := by intro fl; simp [hasOwn_eq, o2, o3]
    have h4 : evE tabs (cl (n + 3)) (.callM 0 11 (.cons (.str ⟨#[89]⟩) .nil)) ⟨[some (.at .me), vI 0, y2, y3, vI 0, none, none, none, none], mkP [] (121 :: t') ((([] : List Nat).length : Int) + 1) (([] : List Nat).length : Int) ((([] : List Nat).length : Int) + 1) f6 f7 f8⟩ = _ := E_callM rfl A_str rfl (ho _) hr
    rw [B_next (S_try ((B_next P_bra).trans ((B_skip (T_val ty (by simp))).trans ((B_next P_inc).trans ((B_next P_ket).trans ((B_next (S_expr h4)).trans B_nil))))) (by intro j h; cases h))]; obtain ⟨L, c2, b2, k2, h5⟩ := mark_loop (n := n) (f6 := f6) (f7 := f7) (f8 := f8) (x2 := y2) (x3 := y3) t'.length t' [89] 1000 none none none none (([] : List Nat).length : Int) ((([] : List Nat).length : Int) + 1) (Nat.le_refl _) o2 o3 rfl rfl rfl rfl hm (by simp at hm; omega); refine ⟨c2, b2, k2, ?_⟩; refine (congrArg retOf (B_next (S_while.trans h5))).trans ?_; rw [B_ret (S_ret (v := ab true) (by rw [evE]) rfl)]; simp only [if_true]; rfl
  · have e1 : evS tabs (cl (n + 3)) 1000 (.try 0 (.cons (.setf 4 (.fld 1)) (.cons (.ite (tAt 121) (.cons (.setf 1 (.var 4)) (.cons (.raise 0) .nil)) .nil) (.cons (.augf 1 .add (.int 1)) (.cons (.setf 5 (.fld 1)) (.cons (sl 89) .nil)))))) ⟨[some (.at .me), vI 0, y2, y3, vI 0, none, none, none, none], mkP [] m (([] : List Nat).length : Int) b1 k1 f6 f7 f8⟩ = _ := S_tryx ((B_next P_bra).trans (B_exc ((S_true (T_val ty (by simpa using hy))).trans ((B_next (P_cur (z := (([] : List Nat).length : Int)) rfl)).trans B_raise))))
    rw [B_next e1]; obtain ⟨L, c2, b2, k2, h5⟩ := mark_loop (n := n) (f6 := f6) (f7 := f7) (f8 := f8) (x2 := y2) (x3 := y3) m.length m [] 1000 none none none none (([] : List Nat).length : Int) k1 (Nat.le_refl _) o2 o3 rfl rfl rfl rfl hm (by omega); refine ⟨c2, b2, k2, ?_⟩; refine (congrArg retOf (B_next (S_while.trans h5))).trans ?_; rw [B_ret (S_ret (v := ab true) (by rw [evE]) rfl)]
    cases m with
    | nil => rfl
    | cons x t =>
      have hx : x ≠ 121 := by simpa using hy
      simp only [if_neg hx]; rfl
end Mine
namespace Mine
def bl : Bool → Nat → List Nat → List Nat
  | _, _, [] => []
  | pv, i, x :: r => if pv && !isV x then (i + 1) :: bl false (i + 1) r else bl (isV x) (i + 1) r
theorem bl_false : ∀ (t : List Nat) (c : Nat), bl false c t = match t.findIdx? isV with | none => [] | some i => bl true (c + i + 1) (t.drop (i + 1))
  | [], _ => rfl
  | x :: t, c => by
    rw [bl, List.findIdx?_cons]
    cases hx : isV x with
    | true => simp
    | false =>
      have := bl_false t (c + 1)
      simp only [Bool.false_and, Bool.false_eq_true, if_false, this]
      cases t.findIdx? isV with
      | none => rfl
      | some i =>
        show bl true (c + 1 + i + 1) _ = bl true (c + (i + 1) + 1) _
        rw [show c + 1 + i + 1 = c + (i + 1) + 1 by omega]; rfl
theorem bl_true : ∀ (t : List Nat) (c : Nat), bl true c t = match t.findIdx? (fun x => !isV x) with | none => [] | some j => (c + j + 1) :: bl false (c + j + 1) (t.drop (j + 1))
  | [], _ => rfl
  | x :: t, c => by
    rw [bl, List.findIdx?_cons]
    cases hx : isV x with
    | false => simp
    | true =>
      have := bl_true t (c + 1)
      simp only [Bool.not_true, Bool.and_false, Bool.false_eq_true, if_false, this]
      cases t.findIdx? (fun x => !isV x) with
      | none => rfl
      | some i =>
        show (c + 1 + i + 1) :: _ = (c + (i + 1) + 1) :: _
        rw [show c + 1 + i + 1 = c + (i + 1) + 1 by omega]; rfl
def first (l : List Nat) : Nat := match bl false 0 l with
  | [] => l.length
  | x :: _ => max 3 x
def second (l : List Nat) : Nat := match bl false 0 l with
  | _ :: y :: _ => y
  | _ => l.length
def p1of (l : List Nat) : Nat := if l.length < 3 then l.length else first l
def p2of (l : List Nat) : Nat := if l.length < 3 then l.length else second l
section
variable {T : Tabs} {Γ : Call} {N : Nat} {σ : AS} {fl : FL}
theorem S_setf {i : Nat} {e : CE} {a : Atom} (hs : selfIs σ = true) (h : evE T Γ e σ = some (.at a, fl)) (hp : isPl a = true) : evS T Γ N (.setf i e) σ = some (⟨σ.loc, fl.set i (some a)⟩, .next) := by
  rw [evS]; simp only [hs, if_true, h, hp]
theorem E_var {i : Nat} {v : AV} (h : σ.loc[i]? = some (some v)) : evE T Γ (.var i) σ = some (v, σ.fl) := by
  rw [evE]; simp only [h]
end
variable {n : Nat} {l : List Nat} {b k : Int} {f6 f7 f8 : Option Atom} {Γ : Call} {N : Nat} {loc : List (Option AV)}
theorem F_inc {c : Nat} {lim : Int} : evS tabs Γ N (.augf 1 .add (.int 1)) ⟨some (.at .me) :: loc, mkF l c lim 0 b k f6 f7 f8⟩ = some (⟨some (.at .me) :: loc, mkF l ((c + 1 : Nat) : Int) lim 0 b k f6 f7 f8⟩, .next) := by
  rw [evS]; simp [evE, selfIs, binV, ai, isPl, augV]
theorem T_out {c : Nat} (hl : l.length < 1000) (hc : c ≤ l.length) (ho : ∀ fl, hasOwn ⟨some (.at .me) :: loc, fl⟩ = false) : evT tabs (cl (n + 1)) (.not (.callM 0 5 (.cons (.cattr (.ofString "g_v")) .nil))) ⟨some (.at .me) :: loc, mkF l c l.length 0 b k f6 f7 f8⟩ =
    match (l.drop c).findIdx? isV with
    | some i => some (false, mkF l ((c + i : Nat) : Int) l.length 0 b k f6 f7 f8)
    | none => some (true, mkF l l.length l.length 0 b k f6 f7 f8) := by
  have h := go_out_spec (n := n) (l := l) (lb := 0) (b := b) (k := k) (f6 := f6) (f7 := f7) (f8 := f8) (a := 230) (by rfl) hl hc
  rw [show inSet 230 = isV from funext set230] at h
  cases hh : (l.drop c).findIdx? isV with
  | none => rw [hh] at h; exact T_not (T_of (E_callM rfl (A_cattr at_v) rfl (ho _) h))
  | some i => rw [hh] at h; exact T_not (T_of (E_callM rfl (A_cattr at_v) rfl (ho _) h))
theorem T_in {c : Nat} (hl : l.length < 1000) (hc : c ≤ l.length) (ho : ∀ fl, hasOwn ⟨some (.at .me) :: loc, fl⟩ = false) : evT tabs (cl (n + 1)) (.not (.callM 0 4 (.cons (.cattr (.ofString "g_v")) .nil))) ⟨some (.at .me) :: loc, mkF l c l.length 0 b k f6 f7 f8⟩ =
    match (l.drop c).findIdx? (fun x => !isV x) with
    | some i => some (false, mkF l ((c + i : Nat) : Int) l.length 0 b k f6 f7 f8)
    | none => some (true, mkF l l.length l.length 0 b k f6 f7 f8) := by
  have h := go_in_spec (n := n) (l := l) (lb := 0) (b := b) (k := k) (f6 := f6) (f7 := f7) (f8 := f8) (a := 230) (by rfl) hl hc
  rw [show (fun c => !inSet 230 c) = (fun x => !isV x) from funext fun x => by rw [set230]] at h
  cases hh : (l.drop c).findIdx? (fun x => !isV x) with
  | none => rw [hh] at h; exact T_not (T_of (E_callM rfl (A_cattr at_v) rfl (ho _) h))
  | some i => rw [hh] at h; exact T_not (T_of (E_callM rfl (A_cattr at_v) rfl (ho _) h))
theorem idx_lt {p : Nat → Bool} {t : List Nat} {i : Nat} (h : t.findIdx? p = some i) : i < t.length := by
  rcases find_split p t with ⟨h1, _⟩ | ⟨u, v, t', h1, h2, _⟩
  · rw [h1] at h; cases h
  · rw [h2] at h; cases h; rw [h1]; simp
abbrev Gv (o : Option (AV × FL)) (l : List Nat) (b k : Int) (p q : Nat) (f8 : Option Atom) : Prop := ∃ (v : Bool) (c : Int), o = some (ab v, mkF l c l.length 0 b k (aI p) (aI q) f8)
theorem regions_spec (hl : l.length < 900) : Gv (cl (n + 2) 16 [.at .me] (mkF l 0 l.length 0 b k f6 f7 f8)) l b k (p1of l) (p2of l) f8 := by
  rw [cl_at (F := ⟨1, _, c_r_mark_regions⟩) rfl rfl]; show Gv (retOf (evB tabs (cl (n + 1)) 1000 c_r_mark_regions ⟨[some (.at .me), none, none], mkF l 0 l.length 0 b k f6 f7 f8⟩)) _ _ _ _ _ _; unfold c_r_mark_regions; rw [B_next (σ' := ⟨[some (.at .me), none, none], mkF l 0 l.length 0 b k (aI l.length) f7 f8⟩) (S_setf rfl (E_fld rfl rfl) rfl)]; rw [B_next (σ' := ⟨[some (.at .me), none, none], mkF l 0 l.length 0 b k (aI l.length) (aI l.length) f8⟩) (S_setf rfl (E_fld rfl rfl) rfl)]; rw [B_next (σ' := ⟨[some (.at .me), vI 0, none], mkF l 0 l.length 0 b k (aI l.length) (aI l.length) f8⟩) ((S_assign (E_fld rfl rfl) rfl rfl).trans rfl)]
  have t3 : evT tabs (cl (n + 1)) (.cmp .gt (.bin .add (.fld 1) (.int 3)) (.fld 2)) ⟨[some (.at .me), vI 0, none], mkF l 0 l.length 0 b k (aI l.length) (aI l.length) f8⟩ = some (decide (l.length < 3), mkF l 0 l.length 0 b k (aI l.length) (aI l.length) f8) := by
    have e : decide ((0 : Int) + 3 > l.length) = decide (l.length < 3) := decide_eq_decide.mpr (by omega)
    rw [← e]; exact T_cmp (x := ai (0 + 3)) (by simp [evE, selfIs, binV, ai]) (E_fld rfl rfl) rfl
  unfold p1of p2of
  by_cases h3 : l.length < 3
  · rw [B_quit (T_val t3 (by simp [h3])), if_pos h3, if_pos h3]
    exact ⟨false, 0, rfl⟩
  rw [B_skip (T_val t3 (by simp [h3])), if_neg h3, if_neg h3]; unfold first second; rw [bl_false l 0]; rw [B_next (σ' := ⟨[some (.at .me), vI 0, none], mkF l 3 l.length 0 b k (aI l.length) (aI l.length) f8⟩) (by rw [evS]; simp [evE, selfIs, ai, augV, isPl])]; rw [B_next (σ' := ⟨[some (.at .me), vI 0, vI 3], mkF l 3 l.length 0 b k (aI l.length) (aI l.length) f8⟩) ((S_assign (E_fld rfl rfl) rfl rfl).trans rfl)]; rw [B_next (σ' := ⟨[some (.at .me), vI 0, vI 3], mkF l ((0 : Nat) : Int) l.length 0 b k (aI l.length) (aI l.length) f8⟩) (S_setf rfl (E_var rfl) rfl)]
  have o1 := T_out (n := n) (l := l) (b := b) (k := k) (f6 := aI l.length) (f7 := aI l.length) (f8 := f8) (loc := [vI 0, vI 3]) (c := 0) (by omega) (by omega) (fun _ => rfl)
  rw [List.drop_zero] at o1
  cases hi : l.findIdx? isV with
  | none =>
    rw [hi] at o1; rw [B_quit o1]; exact ⟨false, _, rfl⟩
  | some i =>
    rw [hi] at o1
    have li := idx_lt hi
    rw [B_skip o1, B_next F_inc]
    have o2 := T_in (n := n) (l := l) (b := b) (k := k) (f6 := aI l.length) (f7 := aI l.length) (f8 := f8) (loc := [vI 0, vI 3]) (c := 0 + i + 1) (by omega) (by omega) (fun _ => rfl)
    simp only [bl_true]
    have ei : l.drop (0 + i + 1) = l.drop (i + 1) := by rw [Nat.zero_add]
    rw [ei] at o2
    cases hj : (l.drop (i + 1)).findIdx? (fun x => !isV x) with
    | none =>
      rw [hj] at o2; rw [B_quit o2]; exact ⟨false, _, rfl⟩
    | some j =>
      rw [hj] at o2
      have lj := idx_lt hj
      rw [List.length_drop] at lj; rw [B_skip o2, B_next F_inc]; obtain ⟨c2, hc2⟩ : ∃ c2, c2 = 0 + i + 1 + j + 1 := ⟨_, rfl⟩; rw [← hc2]
      have hd : (l.drop (i + 1)).drop (j + 1) = l.drop c2 := by rw [List.drop_drop, hc2]; congr 1; omega
      simp only [bl_false, hd, ← hc2]; rw [B_next (σ' := ⟨[some (.at .me), vI 0, vI 3], mkF l c2 l.length 0 b k (aI c2) (aI l.length) f8⟩) (S_setf rfl (E_fld rfl rfl) rfl)]
      have t6 : evT tabs (cl (n + 1)) (.cmp .ge (.fld 6) (.var 2)) ⟨[some (.at .me), vI 0, vI 3], mkF l c2 l.length 0 b k (aI c2) (aI l.length) f8⟩ = some (decide ((c2 : Int) ≥ 3), mkF l c2 l.length 0 b k (aI c2) (aI l.length) f8) := T_cmp (E_fld rfl rfl) (E_var rfl) rfl
      have e6 : evS tabs (cl (n + 1)) 1000 (.try 0 (.cons (.ite (.cmp .ge (.fld 6) (.var 2)) (.cons (.raise 0) .nil) .nil) (.cons (.setf 6 (.var 2)) .nil))) ⟨[some (.at .me), vI 0, vI 3], mkF l c2 l.length 0 b k (aI c2) (aI l.length) f8⟩ = some (⟨[some (.at .me), vI 0, vI 3], mkF l c2 l.length 0 b k (aI ((max 3 c2 : Nat) : Int)) (aI l.length) f8⟩, .next) := by
        by_cases h : (c2 : Int) ≥ 3
        · rw [S_tryx (B_lab (T_val t6 (by simpa using h)))]
          rw [show max 3 c2 = c2 by omega]
        · rw [S_try ((B_skip (T_val t6 (by simpa using h))).trans ((B_next (S_setf rfl (E_var rfl) rfl)).trans B_nil)) (by intro j h; cases h)]
          rw [show max 3 c2 = 3 by omega]; rfl
      rw [B_next e6]
      have o3 := T_out (n := n) (l := l) (b := b) (k := k) (f6 := aI ((max 3 c2 : Nat) : Int)) (f7 := aI l.length) (f8 := f8) (loc := [vI 0, vI 3]) (c := c2) (by omega) (by omega) (fun _ => rfl)
      cases hi2 : (l.drop c2).findIdx? isV with
      | none =>
        rw [hi2] at o3; rw [B_quit o3]; exact ⟨false, _, rfl⟩
      | some i2 =>
        rw [hi2] at o3
        have li2 := idx_lt hi2
        rw [List.length_drop] at li2; rw [B_skip o3, B_next F_inc]
        have o4 := T_in (n := n) (l := l) (b := b) (k := k) (f6 := aI ((max 3 c2 : Nat) : Int)) (f7 := aI l.length) (f8 := f8) (loc := [vI 0, vI 3]) (c := c2 + i2 + 1) (by omega) (by omega) (fun _ => rfl)
        simp only [bl_true]
        have ed : (l.drop c2).drop (i2 + 1) = l.drop (c2 + i2 + 1) := by rw [List.drop_drop]; rfl
        rw [ed]
        cases hj2 : (l.drop (c2 + i2 + 1)).findIdx? (fun x => !isV x) with
        | none =>
          rw [hj2] at o4; rw [B_quit o4]; exact ⟨false, _, rfl⟩
        | some j2 =>
          rw [hj2] at o4; rw [B_skip o4, B_next F_inc]; rw [B_next (σ' := ⟨[some (.at .me), vI 0, vI 3], mkF l ((c2 + i2 + 1 + j2 + 1 : Nat) : Int) l.length 0 b k (aI ((max 3 c2 : Nat) : Int)) (aI ((c2 + i2 + 1 + j2 + 1 : Nat) : Int)) f8⟩) (S_setf rfl (E_fld rfl rfl) rfl)]; rw [B_ret (S_ret (v := ab true) (by rw [evE]) rfl)]; exact ⟨true, _, rfl⟩
end Mine
namespace Mine
variable {n : Nat} {l : List Nat} {b k : Int} {f6 f7 f8 : Option Atom} {Γ : Call} {N : Nat} {loc : List (Option AV)}
def stemW (l : List Nat) : List Nat := ((suffix (p1of (marked l)) (p2of (marked l)) (marked l).reverse).reverse).map unmark
theorem F_curv {c lim lb z : Int} {i : Nat} (h : (some (.at .me) :: loc)[i]? = some (vI z)) : evS tabs Γ N (.setf 1 (.var i)) ⟨some (.at .me) :: loc, mkF l c lim lb b k f6 f7 f8⟩ = some (⟨some (.at .me) :: loc, mkF l z lim lb b k f6 f7 f8⟩, .next) := S_setf rfl (E_var h) rfl
theorem stem_spec (hl : l.length < 900) : ∃ (c lim b' k' : Int) (g6 g7 g8 : Option Atom), cl (n + 8) 24 [.at .me] (mkF l 0 l.length 0 b k f6 f7 f8) = some (ab true, mkF (stemW l) c lim 0 b' k' g6 g7 g8) := by
  rw [cl_at (F := ⟨1, _, c_stem⟩) rfl rfl]; show ∃ (c lim b' k' : Int) (g6 g7 g8 : Option Atom), retOf (evB tabs (cl (n + 7)) 1000 c_stem ⟨[some (.at .me), none, none, none], mkF l 0 l.length 0 b k f6 f7 f8⟩) = _; unfold c_stem stemW; rw [B_next (σ' := ⟨[some (.at .me), vI 0, none, none], mkF l 0 l.length 0 b k f6 f7 f8⟩) ((S_assign (E_fld rfl rfl) rfl rfl).trans rfl)]; obtain ⟨c1, b1, k1, h1⟩ := prelude (n := n + 3) (b := b) (k := k) (f6 := f6) (f7 := f7) (f8 := f8) hl
  have hm := marked_len l
  have q1 : evE tabs (cl (n + 7)) (.callM 0 15 .nil) ⟨[some (.at .me), vI 0, none, none], mkF l 0 l.length 0 b k f6 f7 f8⟩ = _ := E_callM rfl A_nil rfl rfl h1
  rw [B_next (S_expr q1)]; clear q1 h1; generalize marked l = m at hm; rw [B_next (F_curv rfl)]; rw [B_next (σ' := ⟨[some (.at .me), vI 0, vI 0, none], mkF m 0 m.length 0 b1 k1 f6 f7 f8⟩) ((S_assign (E_fld rfl rfl) rfl rfl).trans rfl)]; obtain ⟨v2, c2, h2⟩ := regions_spec (n := n + 5) (l := m) (b := b1) (k := k1) (f6 := f6) (f7 := f7) (f8 := f8) (by omega)
  have q2 : evE tabs (cl (n + 7)) (.callM 0 16 .nil) ⟨[some (.at .me), vI 0, vI 0, none], mkF m 0 m.length 0 b1 k1 f6 f7 f8⟩ = _ := E_callM rfl A_nil rfl rfl h2
  rw [B_next (S_expr q2)]; rw [B_next (F_curv rfl)]; rw [B_next (σ' := ⟨[some (.at .me), vI 0, vI 0, none], mkF m 0 m.length 0 b1 k1 (aI (p1of m)) (aI (p2of m)) f8⟩) (S_setf rfl (E_fld rfl rfl) rfl)]; rw [B_next (σ' := ⟨[some (.at .me), vI 0, vI 0, none], mkF m m.length m.length 0 b1 k1 (aI (p1of m)) (aI (p2of m)) f8⟩) (S_setf rfl (E_fld rfl rfl) rfl)]; obtain ⟨c3, b3, k3, v8, h3⟩ := std_suffix (n := n) (r := m.reverse) (b := b1) (k := k1) (f8 := f8) (p := p1of m) (q := p2of m) (by rw [List.length_reverse]; omega)
  have hsl := suffix_len (p1of m) (p2of m) m.reverse
  rw [List.length_reverse] at hsl; generalize suffix (p1of m) (p2of m) m.reverse = s at h3 hsl
  have e3 : mkR m.reverse m.reverse.length b1 k1 (p1of m) (p2of m) f8 = mkF m m.length m.length 0 b1 k1 (aI (p1of m)) (aI (p2of m)) f8 := by simp only [mkR, List.reverse_reverse, List.length_reverse]
  rw [e3] at h3
  have q3 : evE tabs (cl (n + 7)) (.callM 0 23 .nil) ⟨[some (.at .me), vI 0, vI 0, none], mkF m m.length m.length 0 b1 k1 (aI (p1of m)) (aI (p2of m)) f8⟩ = _ := E_callM rfl A_nil rfl rfl h3
  rw [B_next (S_expr q3)]
  have e4 : mkR s c3 b3 k3 (p1of m) (p2of m) (aB v8) = mkF s.reverse c3 s.reverse.length 0 b3 k3 (aI (p1of m)) (aI (p2of m)) (aB v8) := by simp only [mkR, List.length_reverse]
  rw [e4]; rw [B_next (σ' := ⟨[some (.at .me), vI 0, vI 0, none], mkF s.reverse 0 s.reverse.length 0 b3 k3 (aI (p1of m)) (aI (p2of m)) (aB v8)⟩) (S_setf rfl (E_fld rfl rfl) rfl)]; rw [B_next (σ' := ⟨[some (.at .me), vI 0, vI 0, vI 0], mkF s.reverse 0 s.reverse.length 0 b3 k3 (aI (p1of m)) (aI (p2of m)) (aB v8)⟩) ((S_assign (E_fld rfl rfl) rfl rfl).trans rfl)]; obtain ⟨c5, b5, k5, h5⟩ := postlude (n := n + 3) (l := s.reverse) (b := b3) (k := k3) (f6 := aI (p1of m)) (f7 := aI (p2of m)) (f8 := aB v8) (by rw [List.length_reverse]; omega)
  have q5 : evE tabs (cl (n + 7)) (.callM 0 17 .nil) ⟨[some (.at .me), vI 0, vI 0, vI 0], mkF s.reverse 0 s.reverse.length 0 b3 k3 (aI (p1of m)) (aI (p2of m)) (aB v8)⟩ = _ := E_callM rfl A_nil rfl rfl h5
  rw [B_next (S_expr q5)]; rw [B_next (F_curv rfl)]; refine ⟨0, (s.reverse.map unmark).length, b5, k5, aI (p1of m), aI (p2of m), aB v8, ?_⟩; rw [B_ret (S_ret (v := ab true) (by rw [evE]) rfl)]; rfl
def Nine (fl : FL) : Prop := ∃ f0 f1 f2 f3 f4 f5 f6 f7 f8, fl = [f0, f1, f2, f3, f4, f5, f6, f7, f8]
theorem word_spec {fl : FL} (h : Nine fl) (hl : l.length < 900) : ∃ fl', Nine fl' ∧ cl (n + 9) 13 [.at .me, as (tx l)] fl = some (as (tx (stemW l)), fl') := by
  obtain ⟨f0, f1, f2, f3, f4, f5, f6, f7, f8, rfl⟩ := h; rw [cl_at (F := ⟨2, _, c_stemWord⟩) rfl rfl]; show ∃ fl', Nine fl' ∧ retOf (evB tabs (cl (n + 8)) 1000 c_stemWord ⟨[some (.at .me), some (as (tx l))], [f0, f1, f2, f3, f4, f5, f6, f7, f8]⟩) = _; unfold c_stemWord
  have h1 := set_spec (n := n + 7) (l := l) (by simp only [small, decide_eq_true_eq]; omega) f0 f1 f2 f3 f4 f5 f6 f7 f8
  have a1 : evA tabs (cl (n + 8)) (.cons (.var 1) .nil) ⟨[some (.at .me), some (as (tx l))], [f0, f1, f2, f3, f4, f5, f6, f7, f8]⟩ = some ([as (tx l)], [f0, f1, f2, f3, f4, f5, f6, f7, f8]) := by simp [evA, evE]
  have q1 : evE tabs (cl (n + 8)) (.callM 0 1 (.cons (.var 1) .nil)) ⟨[some (.at .me), some (as (tx l))], [f0, f1, f2, f3, f4, f5, f6, f7, f8]⟩ = _ := E_callM rfl a1 rfl rfl h1
  rw [B_next (S_expr q1)]; obtain ⟨c, lim, b', k', g6, g7, g8, h2⟩ := stem_spec (n := n) (l := l) (b := 0) (k := l.length) (f6 := f6) (f7 := f7) (f8 := f8) hl
  have q2 : evE tabs (cl (n + 8)) (.callM 0 24 .nil) ⟨[some (.at .me), some (as (tx l))], mkF l 0 l.length 0 0 l.length f6 f7 f8⟩ = _ := E_callM rfl A_nil rfl rfl h2
  rw [B_next (S_expr q2)]
  have h3 := get_spec (n := n + 7) (l := stemW l) (c := c) (lim := lim) (lb := 0) (b := b') (k := k') (f6 := g6) (f7 := g7) (f8 := g8)
  have h4 : evE tabs (cl (n + 8)) (.callM 0 2 .nil) ⟨[some (.at .me), some (as (tx l))], mkF (stemW l) c lim 0 b' k' g6 g7 g8⟩ = _ := E_callM rfl A_nil rfl rfl h3
  refine ⟨mkF (stemW l) c lim 0 b' k' g6 g7 g8, ⟨_, _, _, _, _, _, _, _, _, rfl⟩, ?_⟩; rw [B_ret (S_ret h4 rfl)]; rfl
theorem words_spec {fl : FL} (h : Nine fl) {u v : List Nat} (hu : u.length < 900) (hv : v.length < 900) : ∃ fl', Nine fl' ∧ cl (n + 10) 14 [.at .me, .list [.str (tx u), .str (tx v)]] fl = some (.list [.str (tx (stemW u)), .str (tx (stemW v))], fl') := by
  obtain ⟨fl1, n1, h1⟩ := word_spec (n := n) h hu; obtain ⟨fl2, n2, h2⟩ := word_spec (n := n) n1 hv; refine ⟨fl2, n2, ?_⟩; rw [cl_at (F := ⟨2, _, c_stemWords⟩) rfl rfl]; show retOf (evB tabs (cl (n + 9)) 1000 c_stemWords ⟨[some (.at .me), some (.list [.str (tx u), .str (tx v)])], fl⟩) = _
  have e : ∀ (x y : List Nat) (fl fl' : FL), cl (n + 9) 13 [.at .me, as (tx x)] fl = some (as (tx y), fl') → evE tabs (cl (n + 9)) (.callM 1 13 (.cons (.var 0) .nil)) ⟨[some (as (tx x)), some (.at .me)], fl⟩ = some (as (tx y), fl') := by
    intro x y fl fl' hc
    exact E_callM rfl (show evA tabs (cl (n + 9)) (.cons (.var 0) .nil) ⟨[some (as (tx x)), some (.at .me)], fl⟩ = some ([as (tx x)], fl) by simp [evA, evE]) rfl rfl hc
  have e1 := e _ _ _ _ h1
  have e2 := e _ _ _ _ h2
  simp only [as] at e1 e2
  have hc : evE tabs (cl (n + 9)) (.comp (.callM 1 13 (.cons (.var 0) .nil)) (.var 1) [0]) ⟨[some (.at .me), some (.list [.str (tx u), .str (tx v)])], fl⟩ = some (.list [.str (tx (stemW u)), .str (tx (stemW v))], fl2) := by
    have o : hasOwn ⟨[some (.at .me), some (.list [.str (tx u), .str (tx v)])], fl⟩ = false := rfl
    have v1 : evE tabs (cl (n + 9)) (.var 1) ⟨[some (.at .me), some (.list [.str (tx u), .str (tx v)])], fl⟩ = some (.list [.str (tx u), .str (tx v)], fl) := E_var rfl
    have i1 : iterV (.list [.str (tx u), .str (tx v)]) = some [.str (tx u), .str (tx v)] := rfl
    have c1 : capsOf [0] ⟨[some (.at .me), some (.list [.str (tx u), .str (tx v)])], fl⟩ = some [.at .me] := rfl
    rw [evE, o, v1]; simp only [i1, c1]; simp only [evMap, List.map_cons, List.map_nil, e1, e2, Option.map_some, Bool.false_eq_true, if_false]
  unfold c_stemWords; rw [B_ret (S_ret hc rfl)]; rfl
end Mine
namespace Mine
section
variable {T : Tabs} {Γ : Call} {N : Nat} {σ : AS}
theorem AN_cons {a b : CE} {r : CA} {v : Bool} (h : evE T Γ a σ = some (ab v, σ.fl)) : evAnd T Γ (.cons a (.cons b r)) σ = if v then evAnd T Γ (.cons b r) σ else some (ab false, σ.fl) := by
  rw [evAnd, h]
  · cases v <;> rfl
  · intro q; cases q
theorem AN_one {a : CE} {v : Bool} (h : evE T Γ a σ = some (ab v, σ.fl)) : evAnd T Γ (.cons a .nil) σ = some (ab v, σ.fl) := by
  rw [evAnd, h]; rfl
theorem OR_cons {a b : CE} {r : CA} {v : Bool} (h : evE T Γ a σ = some (ab v, σ.fl)) : evOr T Γ (.cons a (.cons b r)) σ = if v then some (ab true, σ.fl) else evOr T Γ (.cons b r) σ := by
  rw [evOr, h]
  · cases v <;> rfl
  · intro q; cases q
theorem OR_one {a : CE} {v : Bool} (h : evE T Γ a σ = some (ab v, σ.fl)) : evOr T Γ (.cons a .nil) σ = some (ab v, σ.fl) := by
  rw [evOr, h]; rfl
theorem E_and2 {a b : CE} {va vb : Bool} (ha : evE T Γ a σ = some (ab va, σ.fl)) (hb : va = true → evE T Γ b σ = some (ab vb, σ.fl)) : evE T Γ (.and (.cons a (.cons b .nil))) σ = some (ab (va && vb), σ.fl) := by
  rw [evE, AN_cons ha]
  cases va with
  | false => rfl
  | true => rw [if_pos rfl, AN_one (hb rfl)]; rfl
theorem E_and3 {a b c : CE} {va vb vc : Bool} (ha : evE T Γ a σ = some (ab va, σ.fl)) (hb : va = true → evE T Γ b σ = some (ab vb, σ.fl)) (hc : va = true → vb = true → evE T Γ c σ = some (ab vc, σ.fl)) : evE T Γ (.and (.cons a (.cons b (.cons c .nil)))) σ = some (ab (va && (vb && vc)), σ.fl) := by
  rw [evE, AN_cons ha]
  cases va with
  | false => rfl
  | true =>
    rw [if_pos rfl, AN_cons (hb rfl)]
    cases vb with
    | false => rfl
    | true => rw [if_pos rfl, AN_one (hc rfl rfl)]; rfl
theorem E_or2 {a b : CE} {va vb : Bool} (ha : evE T Γ a σ = some (ab va, σ.fl)) (hb : va = false → evE T Γ b σ = some (ab vb, σ.fl)) : evE T Γ (.or (.cons a (.cons b .nil))) σ = some (ab (va || vb), σ.fl) := by
  rw [evE, OR_cons ha]
  cases va with
  | true => rfl
  | false => rw [if_neg (by decide), OR_one (hb rfl)]; rfl
theorem E_not {a : CE} {v : Bool} (h : evE T Γ a σ = some (ab v, σ.fl)) : evE T Γ (.not a) σ = some (ab (!v), σ.fl) := by
  rw [evE, h]; rfl
theorem E_cmp {o : Cop} {a b : CE} {x y : AV} {v : Bool} (h1 : evE T Γ a σ = some (x, σ.fl)) (h2 : evE T Γ b σ = some (y, σ.fl)) (h3 : cmpV o x y = some v) : evE T Γ (.cmp o a b) σ = some (ab v, σ.fl) := by
  rw [evE]; simp [h1, h2, h3]
theorem E_bin {o : Bop} {a b : CE} {x y v : AV} (h1 : evE T Γ a σ = some (x, σ.fl)) (h2 : evE T Γ b σ = some (y, σ.fl)) (h3 : binV o x y = some v) : evE T Γ (.bin o a b) σ = some (v, σ.fl) := by
  rw [evE]; simp [h1, h2, h3]
theorem E_idx {a b : CE} {x y v : AV} (h1 : evE T Γ a σ = some (x, σ.fl)) (h2 : evE T Γ b σ = some (y, σ.fl)) (h3 : idxV x y = some v) : evE T Γ (.idx a b) σ = some (v, σ.fl) := by
  rw [evE]; simp [h1, h2, h3]
theorem E_len {a : CE} {x v : AV} (h1 : evE T Γ a σ = some (x, σ.fl)) (h3 : lenV x = some v) : evE T Γ (.len a) σ = some (v, σ.fl) := by
  rw [evE]; simp [h1, h3]
theorem E_int {m : Int} : evE T Γ (.int m) σ = some (ai m, σ.fl) := by rw [evE]
theorem E_str {s : Str} : evE T Γ (.str s) σ = some (as s, σ.fl) := by rw [evE]
theorem E_sliceTo {a b : CE} {x v : AV} {h : Int} (h1 : evE T Γ a σ = some (x, σ.fl)) (h2 : evE T Γ b σ = some (ai h, σ.fl)) (h3 : sliceV x none (some h) = some v) : evE T Γ (.sliceTo a b) σ = some (v, σ.fl) := by
  rw [evE]; simp [h1, h2, h3, ai]
theorem E_ends {a b : CE} {x y v : AV} (h1 : evE T Γ a σ = some (x, σ.fl)) (h2 : evE T Γ b σ = some (y, σ.fl)) (h3 : endsV x y = some v) : evE T Γ (.endswith a b) σ = some (v, σ.fl) := by
  rw [evE]; simp [h1, h2, h3]
theorem E_ite {t a b : CE} {v : Bool} (h : evE T Γ t σ = some (ab v, σ.fl)) : evE T Γ (.ite t a b) σ = if v then evE T Γ a σ else evE T Γ b σ := by
  rw [evE, h]
  cases v <;> rfl
end
theorem strsOf_map : ∀ l : List Nat, strsOf (l.map fun x => Atom.str (chr1 x)) = some (l.map chr1)
  | [] => rfl
  | x :: l => by rw [List.map_cons, strsOf, strsOf_map l]; rfl
theorem any_chr : ∀ (l : List Nat) (x : Nat), (l.map chr1).any (· == chr1 x) = l.contains x
  | [], _ => rfl
  | a :: l, x => by
    rw [List.map_cons, List.any_cons, any_chr l x, chr1_inj, List.contains_cons]
    have : (a == x) = (x == a) := by
      by_cases h : a = x
      · subst h; rfl
      · rw [beq_eq_false_iff_ne.mpr h, beq_eq_false_iff_ne.mpr (Ne.symm h)]
    rw [this]
def setL (l : List Nat) : AV := .list (l.map fun x => Atom.str (chr1 x))
theorem inV_set (l : List Nat) (x : Nat) : inV (chr1 x) (setL l) = some (l.contains x) := by
  unfold inV setL; simp only [strsOf_map, Option.map_some, any_chr]
abbrev vow : List Nat := [97, 101, 105, 111, 117, 121, 232]
theorem glob_v {Γ : Call} {σ : AS} : evE tabs Γ (.glob (.ofString "_law_vowels")) σ = some (setL vow, σ.fl) := by
  have h : tabs.glob (.ofString "_law_vowels") = some (setL vow) := by
    have h1 : ¬ ((.ofString "_law_vowels" : Str) = .ofString "_law_signs") := by decide +kernel
    show (if (Str.ofString "_law_vowels") = .ofString "_law_signs" then some (AV.at (.str signsS)) else if (Str.ofString "_law_vowels") = .ofString "_law_vowels" then some (AV.list vowelsL) else none) = _
    rw [if_neg h1, if_pos rfl]; rfl
  rw [evE, h]; rfl
variable {n : Nat} {Γ : Call} {N : Nat} {fl : FL} {r e s w : List Nat}
theorem sm {l : List Nat} (h : l.length < 1000) : small l.length = true := by simp only [small, decide_eq_true_eq]; omega
theorem ends_R {y : List Nat} (hr : r.length < 1000) (hy : y.length < 1000) : endsV (as (tx r.reverse)) (as (tx y)) = some (ab (y.reverse.isPrefixOf r)) := by
  have := ends_tx (x := r.reverse) (y := y) (sm (by simpa using hr)) (sm hy)
  rw [List.isSuffixOf, List.reverse_reverse] at this; exact this
theorem sliceTo_tx {l : List Nat} {c : Nat} (hl : l.length < 1000) (hc : c < 1000) : sliceV (as (tx l)) none (some (c : Int)) = some (as (tx (l.take c))) := by
  unfold sliceV as; simp [tx_len, sm hl]; refine ⟨by omega, ?_⟩; simp [tx]
theorem cut_R (h : (e ++ s).length < 1000) : sliceV (as (tx (e ++ s).reverse)) none (some (s.length : Int)) = some (as (tx s.reverse)) := by
  have h' := h
  rw [List.length_append] at h'; rw [sliceTo_tx (by rw [List.length_reverse]; exact h) (by omega), take_es]
theorem len_R (h : r.length < 1000) : lenV (as (tx r.reverse)) = some (ai r.length) := by
  have := len_tx (y := r.reverse) (sm (by simpa using h))
  rw [List.length_reverse] at this; exact this
def pick (w : List Nat) (f e : List Nat) : List Nat := if e.isSuffixOf w && decide (e.length > f.length) then e else f
def lend (ends : List (List Nat)) (w : List Nat) : List Nat := ends.foldl (pick w) []
abbrev kEnd : CB := (.cons (.ite (.and (.cons (.endswith (.var 0) (.var 3)) (.cons (.cmp .gt (.len (.var 3)) (.len (.var 2))) .nil))) (.cons (.assign 2 (.var 3)) .nil) .nil) .nil)
theorem ending_loop {A : AV} (hw : w.length < 1000) : ∀ (es : List (List Nat)) (f : List Nat) (x : Option AV), (∀ e ∈ es, e.length < 1000) → f.length < 1000 → okv x = true →
    ∃ x', forN 3 (fun σ => evB tabs (cl n) 1000 kEnd σ) (es.map fun e => Atom.str (tx e)) ⟨[some (as (tx w)), some A, some (as (tx f)), x], fl⟩ = some (⟨[some (as (tx w)), some A, some (as (tx (es.foldl (pick w) f))), x'], fl⟩, .next)
  | [], f, x, _, _, _ => ⟨x, rfl⟩
  | e :: es, f, x, he, hf, hx => by
    have he0 : e.length < 1000 := he e (by simp)
    have hp : (pick w f e).length < 1000 := by unfold pick; split <;> assumption
    obtain ⟨x', ih⟩ := ending_loop hw es (pick w f e) (some (as (tx e))) (fun y hy => he y (by simp [hy])) hp rfl; refine ⟨x', ?_⟩; rw [List.map_cons]; refine (for_next (σ' := ⟨[some (as (tx w)), some A, some (as (tx (pick w f e))), some (as (tx e))], fl⟩) (by simp [okSet_eq, hx]) ?_).trans ih; show evB tabs (cl n) 1000 kEnd ⟨[some (as (tx w)), some A, some (as (tx f)), some (as (tx e))], fl⟩ = _
    have t : evT tabs (cl n) (.and (.cons (.endswith (.var 0) (.var 3)) (.cons (.cmp .gt (.len (.var 3)) (.len (.var 2))) .nil))) ⟨[some (as (tx w)), some A, some (as (tx f)), some (as (tx e))], fl⟩ = some (e.isSuffixOf w && decide (e.length > f.length), fl) := by
      refine T_of (E_and2 (E_ends (E_var rfl) (E_var rfl) (ends_tx (sm hw) (sm he0))) (fun _ => E_cmp (E_len (E_var rfl) (len_tx (sm he0))) (E_len (E_var rfl) (len_tx (sm hf))) ?_)); show some (decide ((e.length : Int) > f.length)) = _; rw [decide_eq_decide.mpr (show (e.length : Int) > f.length ↔ e.length > f.length by omega)]
    unfold pick
    cases hh : e.isSuffixOf w && decide (e.length > f.length) with
    | true =>
      rw [hh] at t; exact (B_next ((S_true t).trans ((B_next (S_assign (E_var rfl) rfl rfl)).trans B_nil))).trans B_nil
    | false =>
      rw [hh] at t; exact (B_skip t).trans B_nil
theorem ending_spec {es : List (List Nat)} (hw : w.length < 1000) (he : ∀ e ∈ es, e.length < 1000) (hs : es.length < 1000) : cl (n + 1) 30 [as (tx w), .list (es.map fun e => Atom.str (tx e))] fl = some (as (tx (lend es w)), fl) := by
  rw [cl_at (F := ⟨2, _, c_law_ending⟩) rfl rfl]; obtain ⟨x', h⟩ := ending_loop (n := n) (fl := fl) (A := .list (es.map fun e => Atom.str (tx e))) hw es [] none he (by decide) rfl; show retOf (evB tabs (cl n) 1000 (.cons (.assign 2 (.str ⟨#[]⟩)) (.cons (.for 3 (.var 1) kEnd) (.cons (.ret (.var 2)) .nil))) ⟨[some (as (tx w)), some (.list (es.map fun e => Atom.str (tx e))), none, none], fl⟩) = _; rw [B_next (σ' := ⟨[some (as (tx w)), some (.list (es.map fun e => Atom.str (tx e))), some (as (tx [])), none], fl⟩) (S_assign E_str rfl rfl)]
  have hf : evS tabs (cl n) 1000 (.for 3 (.var 1) kEnd) ⟨[some (as (tx w)), some (.list (es.map fun e => Atom.str (tx e))), some (as (tx [])), none], fl⟩ = some (⟨[some (as (tx w)), some (.list (es.map fun e => Atom.str (tx e))), some (as (tx (es.foldl (pick w) []))), x'], fl⟩, .next) := by
    rw [evS, E_var (v := .list (es.map fun e => Atom.str (tx e))) rfl]
    have hi : iterV (.list (es.map fun e => Atom.str (tx e))) = some (es.map fun e => Atom.str (tx e)) := by
      unfold iterV; simp only [List.length_map]; rw [if_pos (by simp only [small, decide_eq_true_eq]; omega)]
    simp only [hi]; exact h
  rw [B_next hf, B_ret (S_ret (v := as (tx (lend es w))) (E_var rfl) rfl)]; rfl
theorem shut_spec {x : Nat} {S : AV} {v : Bool} (h : (x :: s).length < 1000) (hS : S.isSt = true) (hv : inV (chr1 x) S = some v) : cl (n + 1) 31 [as (tx (x :: s).reverse), S] fl = some (ab (!v), fl) := by
  rw [cl_at (F := ⟨2, _, c_law_shut⟩) rfl rfl]; show retOf (evB tabs (cl n) 1000 c_law_shut ⟨[some (as (tx (x :: s).reverse)), some S], fl⟩) = _; unfold c_law_shut
  have hi := idx_R (e := []) (x := x) (s := s) h
  have hl : (((x :: s).length : Int) - 1) = s.length := by simp
  have e : evE tabs (cl n) (.cmp .notin (.idx (.var 0) (.bin .sub (.len (.var 0)) (.int 1))) (.var 1)) ⟨[some (as (tx (x :: s).reverse)), some S], fl⟩ = some (ab (!v), fl) := by
    refine E_cmp (E_idx (v := as (chr1 x)) (E_var rfl) (E_bin (E_len (E_var rfl) (len_R h)) E_int rfl) ?_) (E_var rfl) ?_
    · rw [hl]; exact hi
    · show (inV (chr1 x) S).map (!·) = _
      rw [hv]; rfl
  rw [B_ret (S_ret e rfl)]; rfl
end Mine
namespace Mine
variable {n : Nat} {Γ : Call} {N : Nat} {fl : FL} {r e s w : List Nat}
section
variable {T : Tabs} {σ : AS}
theorem A1 {a : CE} {x : AV} (h1 : evE T Γ a σ = some (x, σ.fl)) : evA T Γ (.cons a .nil) σ = some ([x], σ.fl) := by
  simp [evA, h1]
theorem A2 {a b : CE} {x y : AV} (h1 : evE T Γ a σ = some (x, σ.fl)) (h2 : evE T Γ b σ = some (y, σ.fl)) : evA T Γ (.cons a (.cons b .nil)) σ = some ([x, y], σ.fl) := by
  simp [evA, h1, h2]
theorem A3 {a b c : CE} {x y z : AV} (h1 : evE T Γ a σ = some (x, σ.fl)) (h2 : evE T Γ b σ = some (y, σ.fl)) (h3 : evE T Γ c σ = some (z, σ.fl)) : evA T Γ (.cons a (.cons b (.cons c .nil))) σ = some ([x, y, z], σ.fl) := by
  simp [evA, h1, h2, h3]
def strsCA : List (List Nat) → CA
  | [] => .nil
  | e :: r => .cons (.str (tx e)) (strsCA r)
def strsL (es : List (List Nat)) : AV := .list (es.map fun e => Atom.str (tx e))
theorem A_strs : ∀ es : List (List Nat), evA T Γ (strsCA es) σ = some (es.map fun e => as (tx e), σ.fl)
  | [] => by simp [strsCA, evA]
  | e :: r => by simp [strsCA, evA, evE, A_strs r]
theorem atomsOf_strs : ∀ es : List (List Nat), atomsOf (es.map fun e => as (tx e)) = some (es.map fun e => Atom.str (tx e))
  | [] => rfl
  | e :: r => by rw [List.map_cons, as, atomsOf, atomsOf_strs r]; rfl
theorem E_strs {es : List (List Nat)} (h : es.length < 1000) : evE T Γ (.list (strsCA es)) σ = some (strsL es, σ.fl) := by
  rw [evE, A_strs]; simp only [atomsOf_strs, Option.getD_some, List.length_map]; rw [if_pos (by simp only [small, decide_eq_true_eq]; omega)]; rfl
end
theorem sub_ai {a b c : Int} (h : a - b = c) : binV .sub (ai a) (ai b) = some (ai c) := by rw [← h]; rfl
theorem tx_beq (a b : List Nat) : (tx a == tx b) = (a == b) := by
  by_cases h : a = b
  · subst h; simp
  · rw [beq_eq_false_iff_ne.mpr h]
    refine beq_eq_false_iff_ne.mpr fun q => h ?_
    have : (tx a).cps.toList = (tx b).cps.toList := by rw [q]
    simpa [tx] using this
theorem sfx (y r : List Nat) : y.isSuffixOf r.reverse = y.reverse.isPrefixOf r := by rw [List.isSuffixOf, List.reverse_reverse]
theorem lend2 (r : List Nat) : (lend [[100, 100], [107, 107], [116, 116]] r.reverse == []) = !dbl r := by
  unfold lend dbl; simp only [List.foldl_cons, List.foldl_nil, pick, sfx, List.reverse_cons, List.reverse_nil, List.nil_append, List.cons_append]
  cases [100, 100].isPrefixOf r <;> cases [107, 107].isPrefixOf r <;> cases [116, 116].isPrefixOf r <;> rfl
theorem single_spec (hr : r.length < 1000) : cl (n + 2) 32 [as (tx r.reverse)] fl = some (as (tx (single r).reverse), fl) := by
  rw [cl_at (F := ⟨1, _, c_law_single⟩) rfl rfl]; show retOf (evB tabs (cl (n + 1)) 1000 (.cons (.ret (.ite (.cmp .eq (.callG 30 (.cons (.var 0) (.cons (.list (strsCA [[100, 100], [107, 107], [116, 116]])) .nil))) (.str (tx []))) (.var 0) (.sliceTo (.var 0) (.bin .sub (.len (.var 0)) (.int 1))))) .nil) ⟨[some (as (tx r.reverse))], fl⟩) = _
  have he := ending_spec (n := n) (fl := fl) (w := r.reverse) (es := [[100, 100], [107, 107], [116, 116]]) (by simpa using hr) (by decide) (by decide)
  have hc : evE tabs (cl (n + 1)) (.callG 30 (.cons (.var 0) (.cons (.list (strsCA [[100, 100], [107, 107], [116, 116]])) .nil))) ⟨[some (as (tx r.reverse))], fl⟩ = _ := E_callG (A2 (E_var rfl) (E_strs (by decide))) rfl rfl he
  have ht : evE tabs (cl (n + 1)) (.cmp .eq (.callG 30 (.cons (.var 0) (.cons (.list (strsCA [[100, 100], [107, 107], [116, 116]])) .nil))) (.str (tx []))) ⟨[some (as (tx r.reverse))], fl⟩ = some (ab (!dbl r), fl) := by
    refine E_cmp hc E_str ?_; show some (tx _ == tx []) = _; rw [tx_beq, lend2]
  have hx : evE tabs (cl (n + 1)) (.ite (.cmp .eq (.callG 30 (.cons (.var 0) (.cons (.list (strsCA [[100, 100], [107, 107], [116, 116]])) .nil))) (.str (tx []))) (.var 0) (.sliceTo (.var 0) (.bin .sub (.len (.var 0)) (.int 1)))) ⟨[some (as (tx r.reverse))], fl⟩ = some (as (tx (single r).reverse), fl) := by
    rw [E_ite ht]; unfold single
    cases hd : dbl r with
    | false => rw [if_pos (show (!false) = true from rfl)]; exact E_var rfl
    | true =>
      rw [if_neg (show ¬ ((!true) = true) by decide)]; obtain ⟨x, s, rfl⟩ : ∃ x s, r = x :: s := by
        cases r with
        | nil => simp [dbl, List.isPrefixOf] at hd
        | cons x s => exact ⟨x, s, rfl⟩
      exact E_sliceTo (h := s.length) (E_var rfl) (E_bin (E_len (E_var rfl) (len_R hr)) E_int (sub_ai (by simp))) (cut_R (e := [x]) hr)
  rw [B_ret (S_ret hx rfl)]; rfl
def shutBy (v : Nat → Bool) : List Nat → Bool
  | [] => false
  | x :: _ => !v x
theorem call_shut {σ : AS} {i : Nat} {S : CE} {v : Nat → Bool} {L : List Nat} (hS : evE tabs (cl (n + 1)) S σ = some (setL L, σ.fl)) (hv : ∀ x, L.contains x = v x) (hi : σ.loc[i]? = some (some (as (tx s.reverse)))) (ho : hasOwn σ = false) (hs : s.length < 1000) (hne : s ≠ []) :
    evE tabs (cl (n + 1)) (.callG 31 (.cons (.var i) (.cons S .nil))) σ = some (ab (shutBy v s), σ.fl) := by
  obtain ⟨x, t, rfl⟩ : ∃ x t, s = x :: t := by
    cases s with
    | nil => exact absurd rfl hne
    | cons x t => exact ⟨x, t, rfl⟩
  refine E_callG (A2 (E_var hi) hS) rfl ho ?_
  have := shut_spec (n := n) (fl := σ.fl) (x := x) (s := t) (S := setL L) (v := L.contains x) hs rfl (inV_set L x)
  rw [this, hv]; rfl
theorem shut_eq (s : List Nat) : shutBy isV s = shut s := by cases s <;> rfl
theorem less_en_spec {p : Nat} {y : List Nat} (hy : y.length = e.length) (h : (e ++ s).length < 1000) (hp : p ≤ s.length → s ≠ []) : cl (n + 3) 33 [as (tx (e ++ s).reverse), as (tx y), ai p] fl = some (as (tx (lessEn p (e ++ s) s).reverse), fl) := by
  have h' := h
  rw [List.length_append] at h'; rw [cl_at (F := ⟨3, _, c_law_less_en⟩) rfl rfl]; show retOf (evB tabs (cl (n + 2)) 1000 c_law_less_en ⟨[some (as (tx (e ++ s).reverse)), some (as (tx y)), some (ai p), none], fl⟩) = _; unfold c_law_less_en
  have hcut : evE tabs (cl (n + 2)) (.sliceTo (.var 0) (.bin .sub (.len (.var 0)) (.len (.var 1)))) ⟨[some (as (tx (e ++ s).reverse)), some (as (tx y)), some (ai p), none], fl⟩ = some (as (tx s.reverse), fl) := by
    exact E_sliceTo (h := s.length) (E_var rfl) (E_bin (E_len (E_var rfl) (len_R h)) (E_len (E_var rfl) (len_tx (sm (by omega)))) (sub_ai (by rw [List.length_append]; omega))) (cut_R h)
  rw [B_next (σ' := ⟨[some (as (tx (e ++ s).reverse)), some (as (tx y)), some (ai p), some (as (tx s.reverse))], fl⟩) (S_assign hcut rfl rfl)]
  have t : evT tabs (cl (n + 2)) (.and (.cons (.cmp .ge (.len (.var 3)) (.var 2)) (.cons (.callG 31 (.cons (.var 3) (.cons (.glob (.ofString "_law_vowels")) .nil))) (.cons (.not (.endswith (.var 3) (.str ⟨#[103, 101, 109]⟩))) .nil)))) ⟨[some (as (tx (e ++ s).reverse)), some (as (tx y)), some (ai p), some (as (tx s.reverse))], fl⟩ = some (decide (p ≤ s.length) && (shut s && !gem s), fl) := by
    refine T_of (E_and3 (E_cmp (E_len (E_var rfl) (len_R (by omega))) (E_var rfl) ?_) (fun hq => ?_) (fun _ _ => E_not (E_ends (E_var rfl) E_str (ends_R (r := s) (y := [103, 101, 109]) (by omega) (by decide)))))
    · show some (decide ((s.length : Int) ≥ p)) = _
      rw [decide_eq_decide.mpr (show (s.length : Int) ≥ p ↔ p ≤ s.length by omega)]
    · have hne := hp (of_decide_eq_true hq)
      rw [← shut_eq]; exact call_shut (n := n + 1) (v := isV) glob_v (fun x => rfl) (by rfl) (by rfl) (by omega) hne
  unfold lessEn
  cases hh : decide (p ≤ s.length) && (shut s && !gem s) with
  | true =>
    rw [hh] at t
    have hsg := single_spec (n := n) (fl := fl) (r := s) (by omega)
    have hc : evE tabs (cl (n + 2)) (.callG 32 (.cons (.var 3) .nil)) ⟨[some (as (tx (e ++ s).reverse)), some (as (tx y)), some (ai p), some (as (tx s.reverse))], fl⟩ = _ := E_callG (A1 (E_var rfl)) rfl rfl hsg
    rw [B_ret ((S_true t).trans (B_ret (S_ret hc rfl)))]; rfl
  | false =>
    rw [hh] at t; rw [B_skip t, B_ret (S_ret (v := as (tx (e ++ s).reverse)) (E_var rfl) rfl)]; rfl
theorem less_e_spec {p : Nat} (h : r.length < 1000) (hp : ∀ x s, r = x :: s → p ≤ s.length → s ≠ []) : cl (n + 3) 34 [as (tx r.reverse), ai p] fl = some (as (tx ((lessE p r).getD r).reverse), fl) := by
  rw [cl_at (F := ⟨2, _, c_law_less_e⟩) rfl rfl]; show retOf (evB tabs (cl (n + 2)) 1000 c_law_less_e ⟨[some (as (tx r.reverse)), some (ai p), none], fl⟩) = _; unfold c_law_less_e
  have t0 : evT tabs (cl (n + 2)) (.endswith (.var 0) (.str ⟨#[101]⟩)) ⟨[some (as (tx r.reverse)), some (ai p), none], fl⟩ = some ([101].isPrefixOf r, fl) := T_of (E_ends (E_var rfl) E_str (ends_R (r := r) (y := [101]) h (by decide)))
  rcases r with _ | ⟨x, s⟩
  · rw [B_skip (T_val t0 rfl), B_ret (S_ret (v := as (tx [].reverse)) (E_var rfl) rfl)]
    rfl
  have h' : s.length < 999 := by simp only [List.length_cons] at h; omega
  have hpx : [101].isPrefixOf (x :: s) = (x == 101) := by
    have : (101 == x) = (x == 101) := by
      by_cases q : x = 101
      · subst q; rfl
      · rw [beq_eq_false_iff_ne.mpr q, beq_eq_false_iff_ne.mpr (Ne.symm q)]
    simp [List.isPrefixOf, this]
  rw [hpx] at t0
  cases hx : x == 101 with
  | false =>
    rw [hx] at t0
    have hv : lessE p (x :: s) = none := by simp only [lessE, hx]; rfl
    rw [B_skip t0, B_ret (S_ret (v := as (tx (x :: s).reverse)) (E_var rfl) rfl), hv]; rfl
  | true =>
    rw [hx] at t0
    have hcut : evE tabs (cl (n + 2)) (.sliceTo (.var 0) (.bin .sub (.len (.var 0)) (.int 1))) ⟨[some (as (tx (x :: s).reverse)), some (ai p), none], fl⟩ = some (as (tx s.reverse), fl) := by
      exact E_sliceTo (h := s.length) (E_var rfl) (E_bin (E_len (E_var rfl) (len_R h)) E_int (sub_ai (by simp))) (cut_R (e := [x]) h)
    have t : evT tabs (cl (n + 2)) (.and (.cons (.cmp .ge (.len (.var 2)) (.var 1)) (.cons (.callG 31 (.cons (.var 2) (.cons (.glob (.ofString "_law_vowels")) .nil))) .nil))) ⟨[some (as (tx (x :: s).reverse)), some (ai p), some (as (tx s.reverse))], fl⟩ = some (decide (p ≤ s.length) && shut s, fl) := by
      refine T_of (E_and2 (E_cmp (E_len (E_var rfl) (len_R (by omega))) (E_var rfl) ?_) (fun hq => ?_))
      · show some (decide ((s.length : Int) ≥ p)) = _
        rw [decide_eq_decide.mpr (show (s.length : Int) ≥ p ↔ p ≤ s.length by omega)]
      · have hne := hp x s rfl (of_decide_eq_true hq)
        rw [← shut_eq]; exact call_shut (n := n + 1) (v := isV) glob_v (fun x => rfl) (by rfl) (by rfl) (by omega) hne
    have a2 : evS tabs (cl (n + 2)) 1000 (.assign 2 (.sliceTo (.var 0) (.bin .sub (.len (.var 0)) (.int 1)))) ⟨[some (as (tx (x :: s).reverse)), some (ai p), none], fl⟩ = some (⟨[some (as (tx (x :: s).reverse)), some (ai p), some (as (tx s.reverse))], fl⟩, .next) := S_assign hcut rfl rfl
    cases hh : decide (p ≤ s.length) && shut s with
    | true =>
      rw [hh] at t
      have hsg := single_spec (n := n) (fl := fl) (r := s) (by omega)
      have hc : evE tabs (cl (n + 2)) (.callG 32 (.cons (.var 2) .nil)) ⟨[some (as (tx (x :: s).reverse)), some (ai p), some (as (tx s.reverse))], fl⟩ = _ := E_callG (A1 (E_var rfl)) rfl rfl hsg
      rw [B_ret ((S_true t0).trans ((B_next a2).trans (B_ret ((S_true t).trans (B_ret (S_ret hc rfl))))))]
      have hv : lessE p (x :: s) = some (single s) := by simp only [lessE, hx, hh]; rfl
      rw [hv]; rfl
    | false =>
      rw [hh] at t; rw [B_next ((S_true t0).trans ((B_next a2).trans ((B_skip t).trans B_nil))), B_ret (S_ret (v := as (tx (x :: s).reverse)) (E_var rfl) rfl)]
      have hv : lessE p (x :: s) = none := by simp only [lessE, hx, hh]; rfl
      rw [hv]; rfl
end Mine
namespace Mine
variable {n : Nat} {Γ : Call} {N : Nat} {fl : FL} {l : List Nat}
theorem evMap_eq {α : Type} {f : Atom → FL → Option (AV × FL)} {g h : α → Atom} : ∀ l : List α, (∀ x ∈ l, f (g x) fl = some (.at (h x), fl)) → evMap f (l.map g) fl = some (l.map h, fl)
  | [], _ => rfl
  | x :: l, q => by
    rw [List.map_cons, evMap, q x (by simp)]; simp only [evMap_eq l (fun y hy => q y (by simp [hy])), Option.map_some, List.map_cons]
def bareD : List (Str × Str) := [(⟨#[225]⟩, ⟨#[97]⟩), (⟨#[228]⟩, ⟨#[97]⟩), (⟨#[233]⟩, ⟨#[101]⟩), (⟨#[235]⟩, ⟨#[101]⟩), (⟨#[237]⟩, ⟨#[105]⟩), (⟨#[239]⟩, ⟨#[105]⟩), (⟨#[243]⟩, ⟨#[111]⟩), (⟨#[246]⟩, ⟨#[111]⟩), (⟨#[250]⟩, ⟨#[117]⟩), (⟨#[252]⟩, ⟨#[117]⟩)]
theorem chr_eq (a x : Nat) : ((⟨#[a]⟩ : Str) = chr1 x) ↔ a = x := by
  constructor
  · intro h
    have : (⟨#[a]⟩ : Str).cps = (chr1 x).cps := congrArg Str.cps h
    simpa [chr1] using this
  · rintro rfl; rfl
theorem bare_get (x : Nat) : (dictGet (chr1 x) bareD = some (chr1 (bare x))) ∨ (dictGet (chr1 x) bareD = none ∧ bare x = x) := by
  unfold bareD; simp only [dictGet, chr_eq]; unfold bare
  by_cases h1 : x = 225
  · subst h1; exact .inl rfl
  by_cases h2 : x = 228
  · subst h2; exact .inl rfl
  by_cases h3 : x = 233
  · subst h3; exact .inl rfl
  by_cases h4 : x = 235
  · subst h4; exact .inl rfl
  by_cases h5 : x = 237
  · subst h5; exact .inl rfl
  by_cases h6 : x = 239
  · subst h6; exact .inl rfl
  by_cases h7 : x = 243
  · subst h7; exact .inl rfl
  by_cases h8 : x = 246
  · subst h8; exact .inl rfl
  by_cases h9 : x = 250
  · subst h9; exact .inl rfl
  by_cases h10 : x = 252
  · subst h10; exact .inl rfl
  refine .inr ⟨?_, ?_⟩
  · simp [Ne.symm h1, Ne.symm h2, Ne.symm h3, Ne.symm h4, Ne.symm h5, Ne.symm h6, Ne.symm h7, Ne.symm h8, Ne.symm h9, Ne.symm h10]
  · simp [h1, h2, h3, h4, h5, h6, h7, h8, h9, h10]
theorem law_bare_spec : cl (n + 1) 26 [] fl = some (.dict bareD, fl) := by
  rw [cl_at (F := ⟨0, _, c_law_bare⟩) rfl rfl]; show retOf (evB tabs (cl n) 1000 (.cons (.ret (.dict bareD)) .nil) ⟨[], fl⟩) = _; rw [B_ret (S_ret (v := .dict bareD) (by rw [evE]) rfl)]; rfl
theorem bare_comp (hl : l.length < 1000) {σ : AS} (ho : hasOwn σ = false) (h0 : σ.loc[0]? = some (some (as (tx l)))) : evE tabs (cl (n + 1)) (.comp (.ite (.cmp .isin (.var 0) (.callG 26 .nil)) (.idx (.callG 26 .nil) (.var 0)) (.var 0)) (.var 0) []) σ = some (setL (l.map bare), σ.fl) := by
  obtain ⟨loc, fl⟩ := σ; simp only at h0 ⊢
  have i1 : iterV (as (tx l)) = some (l.map fun c => Atom.str (chr1 c)) := by
    unfold iterV as; simp [tx_len, sm hl]; simp [tx]
  have hf : ∀ x ∈ l, (fun (a : Atom) (fl : FL) => evE tabs (cl (n + 1)) (.ite (.cmp .isin (.var 0) (.callG 26 .nil)) (.idx (.callG 26 .nil) (.var 0)) (.var 0)) ⟨[some (.at a)], fl⟩) (Atom.str (chr1 x)) fl = some (.at (Atom.str (chr1 (bare x))), fl) := by
    intro x _
    show evE tabs (cl (n + 1)) _ ⟨[some (as (chr1 x))], fl⟩ = some (as (chr1 (bare x)), fl)
    have hd : evE tabs (cl (n + 1)) (.callG 26 .nil) ⟨[some (as (chr1 x))], fl⟩ = some (.dict bareD, fl) := E_callG A_nil rfl rfl law_bare_spec
    have hv : evE tabs (cl (n + 1)) (.var 0) ⟨[some (as (chr1 x))], fl⟩ = some (as (chr1 x), fl) := E_var rfl
    have ht : evE tabs (cl (n + 1)) (.cmp .isin (.var 0) (.callG 26 .nil)) ⟨[some (as (chr1 x))], fl⟩ = some (ab (dictGet (chr1 x) bareD).isSome, fl) := E_cmp hv hd rfl
    rw [E_ite ht]
    rcases bare_get x with h | ⟨h1, h2⟩
    · rw [h]
      rw [if_pos (show (some (chr1 (bare x))).isSome = true from rfl)]; refine E_idx hd hv ?_; show (dictGet (chr1 x) bareD).map as = _; rw [h]; rfl
    · rw [h1, h2, if_neg (show ¬ ((none : Option Str).isSome = true) by decide)]
      exact hv
  have v1 : evE tabs (cl (n + 1)) (.var 0) ⟨loc, fl⟩ = some (as (tx l), fl) := E_var h0
  rw [evE, ho, v1]; simp only [i1, capsOf, List.map_nil, Bool.false_eq_true, if_false]; rw [evMap_eq l hf]; simp only [Option.map_some, setL, List.map_map]; rfl
abbrev yI (bv x : Nat) : Bool := bv == x
def ownL (d : List Nat) : AV := .own (d.map fun x => Atom.str (chr1 x))
def lastV (d : List Nat) : Bool := match d.getLast? with
  | some x => isV x
  | none => false
abbrev kMk : CB := (.cons (.assign 4 (.idx (.var 1) (.var 3))) (.cons (.assign 5 (.and (.cons (.cmp .gt (.var 3) (.int 0)) (.cons (.cmp .isin (.idx (.var 2) (.bin .sub (.var 3) (.int 1))) (.glob (.ofString "_law_vowels"))) .nil)))) (.cons (.assign 6 (.and (.cons (.cmp .lt (.bin .add (.var 3) (.int 1)) (.len (.var 1))) (.cons (.cmp .isin (.idx (.var 1) (.bin .add (.var 3) (.int 1))) (.glob (.ofString "_law_vowels"))) .nil)))) (.cons (.ite (.and (.cons (.cmp .eq (.var 4) (.str ⟨#[121]⟩)) (.cons (.or (.cons (.cmp .eq (.var 3) (.int 0)) (.cons (.var 5) .nil))) .nil))) (.cons (.append 2 (.str ⟨#[89]⟩)) .nil) (.cons (.ite (.and (.cons (.cmp .eq (.var 4) (.str ⟨#[105]⟩)) (.cons (.var 5) (.cons (.var 6) .nil)))) (.cons (.append 2 (.str ⟨#[73]⟩)) .nil) (.cons (.append 2 (.var 4)) .nil)) .nil)) .nil))))
def mkOne (d : List Nat) (x : Nat) (t : List Nat) : Nat := if x = 121 ∧ (d = [] ∨ lastV d = true) then 89 else if x = 105 ∧ lastV d = true ∧ headV t = true then 73 else x
theorem idx_list {d : List Nat} {i x : Nat} (hd : d.length < 1000) (h : d[i]? = some x) : idxV (setL d) (ai i) = some (as (chr1 x)) := by
  unfold setL ai idxV; simp [sm hd, h, as]
theorem idx_own {d : List Nat} {i x : Nat} (hd : d.length < 1000) (h : d[i]? = some x) : idxV (ownL d) (ai i) = some (as (chr1 x)) := by
  unfold ownL ai idxV; simp [sm hd, h, as]
theorem S_append {i : Nat} {e : CE} {a : Atom} {σ : AS} {d : List Atom} (h : evE tabs Γ e σ = some (.at a, σ.fl)) (hi : σ.loc[i]? = some (some (.own d))) (hd : d.length < 1000) (ho : hasOwn ⟨σ.loc.set i none, σ.fl⟩ = false) : evS tabs Γ N (.append i e) σ = some (⟨σ.loc.set i (some (.own (d ++ [a]))), σ.fl⟩, .next) := by
  rw [evS]; simp only [h, hi, ho]
  have : small d.length = true := by simp only [small, decide_eq_true_eq]; omega
  rw [this]; rfl
abbrev LM (w b : AV) (d : List Nat) (x3 x4 x5 x6 : Option AV) : List (Option AV) := [some w, some b, some (ownL d), x3, x4, x5, x6]
theorem mark_turn {lw : List Nat} {pre d t : List Nat} {x : Nat} {x4 x5 x6 : Option AV} (o4 : okv x4 = true) (o5 : okv x5 = true) (o6 : okv x6 = true) (hpd : pre.length = d.length) (hl : (pre ++ x :: t).length < 900) :
    ∃ y4 y5 y6, okv y4 = true ∧ okv y5 = true ∧ okv y6 = true ∧ evB tabs Γ N kMk ⟨LM (as (tx lw)) (setL (pre ++ x :: t)) d (vI pre.length) x4 x5 x6, fl⟩ = some (⟨LM (as (tx lw)) (setL (pre ++ x :: t)) (d ++ [mkOne d x t]) (vI pre.length) y4 y5 y6, fl⟩, .next) := by
  have hd : d.length < 900 := by simp only [List.length_append, List.length_cons] at hl; omega
  refine ⟨some (as (chr1 x)), some (ab (lastV d)), some (ab (headV t)), rfl, rfl, rfl, ?_⟩
  have hx : (pre ++ x :: t)[pre.length]? = some x := by simp
  rw [B_next (σ' := ⟨LM (as (tx lw)) (setL (pre ++ x :: t)) d (vI pre.length) (some (as (chr1 x))) x5 x6, fl⟩) (S_assign (E_idx (E_var rfl) (E_var rfl) (idx_list (by omega) hx)) rfl (by simp [okSet_eq, o4]))]
  have h5 : evE tabs Γ (.and (.cons (.cmp .gt (.var 3) (.int 0)) (.cons (.cmp .isin (.idx (.var 2) (.bin .sub (.var 3) (.int 1))) (.glob (.ofString "_law_vowels"))) .nil))) ⟨LM (as (tx lw)) (setL (pre ++ x :: t)) d (vI pre.length) (some (as (chr1 x))) x5 x6, fl⟩ = some (ab (decide (0 < pre.length) && lastV d), fl) := by
    refine E_and2 (E_cmp (E_var rfl) E_int ?_) (fun hq => ?_)
    · show some (decide ((pre.length : Int) > 0)) = _
      rw [decide_eq_decide.mpr (show (pre.length : Int) > 0 ↔ 0 < pre.length by omega)]
    · have hq := of_decide_eq_true hq
      obtain ⟨z, hz⟩ : ∃ z, d[pre.length - 1]? = some z := ⟨d[pre.length - 1], List.getElem?_eq_getElem (by omega)⟩
      have hlast : d.getLast? = some z := by rw [List.getLast?_eq_getElem?, ← hpd, hz]
      have hv : lastV d = isV z := by unfold lastV; rw [hlast]
      rw [hv]; refine E_cmp (E_idx (v := as (chr1 z)) (E_var rfl) (E_bin (v := ai ((pre.length - 1 : Nat) : Int)) (E_var rfl) E_int (sub_ai (by omega))) (idx_own (by omega) hz)) glob_v ?_; exact inV_set vow z
  have e5 : (decide (0 < pre.length) && lastV d) = lastV d := by
    cases d with
    | nil => cases decide (0 < pre.length) <;> rfl
    | cons a d => rw [decide_eq_true (by rw [hpd]; simp)]; rfl
  rw [e5] at h5; rw [B_next (σ' := ⟨LM (as (tx lw)) (setL (pre ++ x :: t)) d (vI pre.length) (some (as (chr1 x))) (some (ab (lastV d))) x6, fl⟩) (S_assign h5 rfl (by simp [okSet_eq, o5]))]
  have h6 : evE tabs Γ (.and (.cons (.cmp .lt (.bin .add (.var 3) (.int 1)) (.len (.var 1))) (.cons (.cmp .isin (.idx (.var 1) (.bin .add (.var 3) (.int 1))) (.glob (.ofString "_law_vowels"))) .nil))) ⟨LM (as (tx lw)) (setL (pre ++ x :: t)) d (vI pre.length) (some (as (chr1 x))) (some (ab (lastV d))) x6, fl⟩ = some (ab (decide (pre.length + 1 < (pre ++ x :: t).length) && headV t), fl) := by
    have hb : evE tabs Γ (.bin .add (.var 3) (.int 1)) ⟨LM (as (tx lw)) (setL (pre ++ x :: t)) d (vI pre.length) (some (as (chr1 x))) (some (ab (lastV d))) x6, fl⟩ = some (ai ((pre.length + 1 : Nat) : Int), fl) := E_bin (E_var rfl) E_int rfl
    have hlen : lenV (setL (pre ++ x :: t)) = some (ai (pre ++ x :: t).length) := by
      unfold lenV setL; simp only [List.length_map, sm (show (pre ++ x :: t).length < 1000 by omega), if_true]
    refine E_and2 (E_cmp hb (E_len (E_var rfl) hlen) ?_) (fun hq => ?_)
    · show some (decide (((pre.length + 1 : Nat) : Int) < (pre ++ x :: t).length)) = _
      rw [decide_eq_decide.mpr (show ((pre.length + 1 : Nat) : Int) < (pre ++ x :: t).length ↔ pre.length + 1 < (pre ++ x :: t).length by omega)]
    · have hq := of_decide_eq_true hq
      obtain ⟨z, t', rfl⟩ : ∃ z t', t = z :: t' := by
        cases t with
        | nil => simp at hq
        | cons z t' => exact ⟨z, t', rfl⟩
      refine E_cmp (E_idx (v := as (chr1 z)) (E_var rfl) hb (idx_list (by omega) (by simp))) glob_v ?_; exact inV_set vow z
  have e6 : (decide (pre.length + 1 < (pre ++ x :: t).length) && headV t) = headV t := by
    cases t with
    | nil => cases decide (pre.length + 1 < (pre ++ [x]).length) <;> rfl
    | cons a t => rw [decide_eq_true (by simp)]; rfl
  rw [e6] at h6; rw [B_next (σ' := ⟨LM (as (tx lw)) (setL (pre ++ x :: t)) d (vI pre.length) (some (as (chr1 x))) (some (ab (lastV d))) (some (ab (headV t))), fl⟩) (S_assign h6 rfl (by simp [okSet_eq, o6]))]
  have ap : ∀ (e : CE) (z : Nat), evE tabs Γ e ⟨LM (as (tx lw)) (setL (pre ++ x :: t)) d (vI pre.length) (some (as (chr1 x))) (some (ab (lastV d))) (some (ab (headV t))), fl⟩ = some (as (chr1 z), fl) →
      evB tabs Γ N (.cons (.append 2 e) .nil) ⟨LM (as (tx lw)) (setL (pre ++ x :: t)) d (vI pre.length) (some (as (chr1 x))) (some (ab (lastV d))) (some (ab (headV t))), fl⟩ = some (⟨LM (as (tx lw)) (setL (pre ++ x :: t)) (d ++ [z]) (vI pre.length) (some (as (chr1 x))) (some (ab (lastV d))) (some (ab (headV t))), fl⟩, .next) := by
    intro e z he
    refine (B_next (S_append (a := .str (chr1 z)) (d := d.map fun x => Atom.str (chr1 x)) he rfl (by rw [List.length_map]; omega) rfl)).trans (B_nil.trans ?_)
    have : ownL (d ++ [z]) = .own ((d.map fun x => Atom.str (chr1 x)) ++ [.str (chr1 z)]) := by unfold ownL; rw [List.map_append]; rfl
    simp only [LM, this]; rfl
  have cy : evT tabs Γ (.and (.cons (.cmp .eq (.var 4) (.str ⟨#[121]⟩)) (.cons (.or (.cons (.cmp .eq (.var 3) (.int 0)) (.cons (.var 5) .nil))) .nil))) ⟨LM (as (tx lw)) (setL (pre ++ x :: t)) d (vI pre.length) (some (as (chr1 x))) (some (ab (lastV d))) (some (ab (headV t))), fl⟩ = some ((x == 121) && (((pre.length : Int) == 0) || lastV d), fl) :=
    T_of (E_and2 (E_cmp (E_var rfl) E_str (congrArg some (chr1_eq x 121))) (fun _ => E_or2 (E_cmp (E_var rfl) E_int rfl) (fun _ => E_var rfl)))
  have ci : evT tabs Γ (.and (.cons (.cmp .eq (.var 4) (.str ⟨#[105]⟩)) (.cons (.var 5) (.cons (.var 6) .nil)))) ⟨LM (as (tx lw)) (setL (pre ++ x :: t)) d (vI pre.length) (some (as (chr1 x))) (some (ab (lastV d))) (some (ab (headV t))), fl⟩ = some ((x == 105) && (lastV d && headV t), fl) :=
    T_of (E_and3 (E_cmp (E_var rfl) E_str (congrArg some (chr1_eq x 105))) (fun _ => E_var rfl) (fun _ _ => E_var rfl))
  rw [B_one]
  have hnil : ((pre.length : Int) == 0) = decide (d = []) := by
    cases d with
    | nil => rw [hpd]; rfl
    | cons a d => rw [hpd]; simp; omega
  rw [hnil] at cy; unfold mkOne
  by_cases hy : x = 121 ∧ (d = [] ∨ lastV d = true)
  · rw [if_pos hy]
    have : ((x == 121) && (decide (d = []) || lastV d)) = true := by
      obtain ⟨h1, h2⟩ := hy; subst h1
      rcases h2 with h2 | h2
      · subst h2; rfl
      · rw [h2]; simp
    rw [this] at cy; rw [S_true cy]; exact ap _ 89 E_str
  · rw [if_neg hy]
    have : ((x == 121) && (decide (d = []) || lastV d)) = false := by
      rw [Bool.eq_false_iff]
      intro h
      obtain ⟨h1, h2⟩ := Bool.and_eq_true_iff.mp h; refine hy ⟨by simpa using h1, ?_⟩
      rcases Bool.or_eq_true_iff.mp h2 with h2 | h2
      · exact .inl (of_decide_eq_true h2)
      · exact .inr h2
    rw [this] at cy; rw [S_false cy, B_one]
    by_cases hi : x = 105 ∧ lastV d = true ∧ headV t = true
    · rw [if_pos hi]
      obtain ⟨h1, h2, h3⟩ := hi
      have : ((x == 105) && (lastV d && headV t)) = true := by rw [h2, h3, h1]; rfl
      rw [this] at ci; rw [S_true ci]; exact ap _ 73 E_str
    · rw [if_neg hi]
      have : ((x == 105) && (lastV d && headV t)) = false := by
        rw [Bool.eq_false_iff]
        intro h
        obtain ⟨h1, h2⟩ := Bool.and_eq_true_iff.mp h; obtain ⟨h2, h3⟩ := Bool.and_eq_true_iff.mp h2; exact hi ⟨by simpa using h1, h2, h3⟩
      rw [this] at ci; rw [S_false ci]; exact ap _ x (E_var rfl)
end Mine
namespace Mine
variable {n : Nat} {Γ : Call} {N : Nat} {fl : FL} {l : List Nat}
theorem lastV_app (d : List Nat) (z : Nat) : lastV (d ++ [z]) = isV z := by unfold lastV; simp
theorem mk_step {d : List Nat} (hd : d ≠ []) (x : Nat) (t : List Nat) : mk (lastV d) (x :: t) = mkOne d x t :: mk (lastV (d ++ [mkOne d x t])) t := by
  rw [lastV_app]; unfold mkOne; rw [mk]
  by_cases h1 : x = 121 ∧ lastV d = true
  · rw [if_pos h1, if_pos ⟨h1.1, .inr h1.2⟩]; rfl
  · have h1' : ¬ (x = 121 ∧ (d = [] ∨ lastV d = true)) := by
      rintro ⟨a, b | b⟩
      · exact hd b
      · exact h1 ⟨a, b⟩
    rw [if_neg h1, if_neg h1']
    by_cases h2 : x = 105 ∧ lastV d = true ∧ headV t = true
    · simp only [if_pos h2]; rfl
    · simp only [if_neg h2]
theorem marks_rest {lw : List Nat} : ∀ (t pre d : List Nat) (x3 x4 x5 x6 : Option AV), okv x3 = true → okv x4 = true → okv x5 = true → okv x6 = true → pre.length = d.length → d ≠ [] → (pre ++ t).length < 900 →
    ∃ y3 y4 y5 y6, forN 3 (fun σ => evB tabs Γ N kMk σ) ((List.range' pre.length t.length).map fun (z : Nat) => Atom.int z) ⟨LM (as (tx lw)) (setL (pre ++ t)) d x3 x4 x5 x6, fl⟩ =
      some (⟨LM (as (tx lw)) (setL (pre ++ t)) (d ++ mk (lastV d) t) y3 y4 y5 y6, fl⟩, .next)
  | [], pre, d, x3, x4, x5, x6, _, _, _, _, _, _, _ => ⟨x3, x4, x5, x6, by simp [mk, forN]⟩
  | x :: t, pre, d, x3, x4, x5, x6, o3, o4, o5, o6, hpd, hd, hl => by
    obtain ⟨y4, y5, y6, q4, q5, q6, h⟩ := mark_turn (Γ := Γ) (N := N) (fl := fl) (lw := lw) (pre := pre) (d := d) (t := t) (x := x) o4 o5 o6 hpd hl; obtain ⟨z3, z4, z5, z6, ih⟩ := marks_rest (lw := lw) t (pre ++ [x]) (d ++ [mkOne d x t]) (vI pre.length) y4 y5 y6 rfl q4 q5 q6 (by simp [hpd]) (by simp) (by simpa using hl); refine ⟨z3, z4, z5, z6, ?_⟩; simp only [List.length_cons, List.range'_succ, List.map_cons]
    have el : (pre ++ [x]).length = pre.length + 1 := by simp
    have ep : (pre ++ [x]) ++ t = pre ++ x :: t := by simp
    have ed : (d ++ [mkOne d x t]) ++ mk (lastV (d ++ [mkOne d x t])) t = d ++ mk (lastV d) (x :: t) := by rw [mk_step hd]; simp
    rw [el, ep, ed] at ih; exact (for_next (by simp [okSet_eq, o3]) h).trans ih
def mk0 : List Nat → List Nat
  | [] => []
  | x :: t => if x = 121 then 89 :: mk false t else mk false (x :: t)
theorem marked_eq (l : List Nat) : marked l = mk0 (l.map bare) := by
  unfold marked mk0
  cases l.map bare <;> rfl
theorem marks_all {lw m : List Nat} (hl : m.length < 900) : ∃ y3 y4 y5 y6, forN 3 (fun σ => evB tabs Γ N kMk σ) ((List.range' 0 m.length).map fun (z : Nat) => Atom.int z) ⟨LM (as (tx lw)) (setL m) [] none none none none, fl⟩ =
      some (⟨LM (as (tx lw)) (setL m) (mk0 m) y3 y4 y5 y6, fl⟩, .next) := by
  cases m with
  | nil => exact ⟨none, none, none, none, rfl⟩
  | cons x t =>
    obtain ⟨y4, y5, y6, q4, q5, q6, h⟩ := mark_turn (Γ := Γ) (N := N) (fl := fl) (lw := lw) (pre := []) (d := []) (t := t) (x := x) (x4 := none) (x5 := none) (x6 := none) rfl rfl rfl rfl hl; obtain ⟨z3, z4, z5, z6, ih⟩ := marks_rest (Γ := Γ) (N := N) (fl := fl) (lw := lw) t [x] [mkOne [] x t] (vI 0) y4 y5 y6 rfl q4 q5 q6 rfl (by simp) hl; refine ⟨z3, z4, z5, z6, ?_⟩; simp only [List.length_cons, List.range'_succ, List.map_cons]; refine (for_next (by rfl) h).trans ?_; refine ih.trans ?_
    have : [mkOne [] x t] ++ mk (lastV [mkOne [] x t]) t = mk0 (x :: t) := by
      show _ = if x = 121 then 89 :: mk false t else mk false (x :: t)
      have e : lastV [mkOne [] x t] = isV (mkOne [] x t) := rfl
      rw [e, mk_false]; unfold mkOne
      by_cases h : x = 121
      · subst h; rfl
      · have : ¬ (lastV [] = true) := by decide
        simp [h, this]
    rw [this]; rfl
theorem join_own {d : List Nat} (h : d.length < 1000) : joinV (ownL d) = some (as (tx d)) := by
  unfold joinV ownL
  have e1 : ∀ d : List Nat, ((d.map chr1).map (·.length)).sum = d.length := by
    intro d
    induction d with
    | nil => rfl
    | cons x d ih => rw [List.map_cons, List.map_cons, List.sum_cons, ih]; simp [chr1, Str.length]; omega
  have e2 : ∀ d : List Nat, (d.map chr1).flatMap (·.cps.toList) = d := by
    intro d
    induction d with
    | nil => rfl
    | cons x d ih => rw [List.map_cons, List.flatMap_cons, ih]; rfl
  simp only [strsOf_map, List.length_map, e1, e2, sm h, Bool.and_self, if_true]; rfl
theorem marked_spec (hl : l.length < 900) : cl (n + 2) 28 [as (tx l)] fl = some (as (tx (marked l)), fl) := by
  rw [cl_at (F := ⟨1, _, c_law_marked⟩) rfl rfl]; show retOf (evB tabs (cl (n + 1)) 1000 (.cons (.assign 1 (.comp (.ite (.cmp .isin (.var 0) (.callG 26 .nil)) (.idx (.callG 26 .nil) (.var 0)) (.var 0)) (.var 0) [])) (.cons (.newOwn 2) (.cons (.for 3 (.range (.cons (.len (.var 1)) .nil)) kMk) (.cons (.ret (.join (.var 2))) .nil)))) ⟨[some (as (tx l)), none, none, none, none, none, none], fl⟩) = _
  have hb := bare_comp (n := n) (l := l) (σ := ⟨[some (as (tx l)), none, none, none, none, none, none], fl⟩) (by omega) rfl rfl
  rw [B_next (σ' := ⟨[some (as (tx l)), some (setL (l.map bare)), none, none, none, none, none], fl⟩) (S_assign hb rfl rfl)]
  have hml := marked_len l
  rw [marked_eq] at hml ⊢
  have hlen : (l.map bare).length = l.length := List.length_map ..
  generalize l.map bare = m at hlen hml; rw [B_next (σ' := ⟨LM (as (tx l)) (setL m) [] none none none none, fl⟩) (by rw [evS]; rfl)]; obtain ⟨y3, y4, y5, y6, h⟩ := marks_all (Γ := cl (n + 1)) (N := 1000) (fl := fl) (lw := l) (m := m) (by omega)
  have hr : evE tabs (cl (n + 1)) (.range (.cons (.len (.var 1)) .nil)) ⟨LM (as (tx l)) (setL m) [] none none none none, fl⟩ = some (.rng 0 m.length 1, fl) := by
    have hlv : lenV (setL m) = some (ai m.length) := by unfold lenV setL; simp only [List.length_map, sm (show m.length < 1000 by omega), if_true]
    have ha : evA tabs (cl (n + 1)) (.cons (.len (.var 1)) .nil) ⟨LM (as (tx l)) (setL m) [] none none none none, fl⟩ = some ([ai m.length], fl) := A1 (E_len (E_var rfl) hlv)
    have hg : rgOk (m.length : Int) = true := by simp only [rgOk, Bool.and_eq_true, decide_eq_true_eq]; omega
    rw [evE, ha]; simp only [ai, hg, if_true]
  have hi : iterV (.rng 0 m.length 1) = some ((List.range' 0 m.length).map fun (z : Nat) => Atom.int z) := by
    have hg : rgOk (m.length : Int) = true := by simp only [rgOk, Bool.and_eq_true, decide_eq_true_eq]; omega
    have hs : small ((m.length : Int) - 0).toNat = true := by simp only [small, decide_eq_true_eq]; omega
    have h0 : rgOk 0 = true := rfl
    simp only [iterV, hg, h0, Bool.and_true, if_true, rangeInts, hs, Option.map_some]
    have := range_map 0 m.length Atom.int
    simp only [Int.natCast_zero] at this; rw [show ((m.length : Int) - 0).toNat = m.length by omega]; exact congrArg some this
  have hf : evS tabs (cl (n + 1)) 1000 (.for 3 (.range (.cons (.len (.var 1)) .nil)) kMk) ⟨LM (as (tx l)) (setL m) [] none none none none, fl⟩ = some (⟨LM (as (tx l)) (setL m) (mk0 m) y3 y4 y5 y6, fl⟩, .next) := by
    rw [evS, hr]; simp only [hi]; exact h
  rw [B_next hf]
  have hj : ∀ (d : List Nat) (x3 x4 x5 x6 : Option AV), d.length < 1000 → evE tabs (cl (n + 1)) (.join (.var 2)) ⟨LM (as (tx l)) (setL m) d x3 x4 x5 x6, fl⟩ = some (as (tx d), fl) := by
    intro d x3 x4 x5 x6 hd
    rw [evE, E_var (v := ownL d) rfl]; simp only [join_own hd, Option.map_some]
  rw [B_ret (S_ret (hj _ _ _ _ _ (by omega)) rfl)]; rfl
theorem E_tup2 {T : Tabs} {σ : AS} {a b : CE} {x y : Int} (h1 : evE T Γ a σ = some (ai x, σ.fl)) (h2 : evE T Γ b σ = some (ai y, σ.fl)) : evE T Γ (.tup (.cons a (.cons b .nil))) σ = some (.tup [.int x, .int y], σ.fl) := by
  rw [evE, A2 h1 h2]; rfl
theorem mapIf {l : List Nat} {σw : AV} {f : Atom → FL → Option (AV × FL)} {c : Atom → FL → Option (Bool × FL)} (hf : ∀ i : Nat, f (.int i) fl = some (ai ((i + 1 : Nat) : Int), fl))
    (hc : ∀ (pre t : List Nat) (p x : Nat), l = pre ++ p :: x :: t → c (.int ((pre.length + 1 : Nat) : Int)) fl = some (isV p && !isV x, fl)) :
    ∀ (t pre : List Nat) (p : Nat), l = pre ++ p :: t → evMapIf f c ((List.range' (pre.length + 1) t.length).map fun (z : Nat) => Atom.int z) fl = some ((bl (isV p) (pre.length + 1) t).map fun (z : Nat) => Atom.int z, fl)
  | [], pre, p, _ => rfl
  | x :: t, pre, p, h => by
    have hx := hc pre t p x h
    have ih := mapIf (σw := σw) hf hc t (pre ++ [p]) x (by rw [h]; simp)
    have el : (pre ++ [p]).length = pre.length + 1 := by simp
    rw [el] at ih; simp only [List.length_cons, List.range'_succ, List.map_cons]; rw [evMapIf, hx, bl]
    cases hh : isV p && !isV x with
    | true =>
      have hxv : isV x = false := by
        have := (Bool.and_eq_true_iff.mp hh).2
        simpa using this
      rw [hxv] at ih; simp only [hf, if_true]; simp only [ai, ih, Option.map_some, List.map_cons]
    | false =>
      simp only [Bool.false_eq_true, if_false]; exact ih
theorem law_regions_spec (hl : l.length < 900) : cl (n + 1) 29 [as (tx l)] fl = some (.tup [.int (first l), .int (second l)], fl) := by
  rw [cl_at (F := ⟨1, _, c_law_regions⟩) rfl rfl]; show retOf (evB tabs (cl n) 1000 c_law_regions ⟨[some (as (tx l)), none, none, none], fl⟩) = _; unfold c_law_regions
  have hlen : lenV (as (tx l)) = some (ai l.length) := len_tx (sm (by omega))
  have hcomp : evE tabs (cl n) (.compIf (.bin .add (.var 0) (.int 1)) (.range (.cons (.int 1) (.cons (.len (.var 0)) .nil))) (.and (.cons (.cmp .isin (.idx (.var 1) (.bin .sub (.var 0) (.int 1))) (.glob (.ofString "_law_vowels"))) (.cons (.cmp .notin (.idx (.var 1) (.var 0)) (.glob (.ofString "_law_vowels"))) .nil))) [0]) ⟨[some (as (tx l)), none, none, none], fl⟩ = some (.list ((bl false 0 l).map fun (z : Nat) => Atom.int z), fl) := by
    have hr : evE tabs (cl n) (.range (.cons (.int 1) (.cons (.len (.var 0)) .nil))) ⟨[some (as (tx l)), none, none, none], fl⟩ = some (.rng 1 l.length 1, fl) := by
      have ha : evA tabs (cl n) (.cons (.int 1) (.cons (.len (.var 0)) .nil)) ⟨[some (as (tx l)), none, none, none], fl⟩ = some ([ai 1, ai l.length], fl) := A2 E_int (E_len (E_var rfl) hlen)
      have hg : rgOk (l.length : Int) = true := by simp only [rgOk, Bool.and_eq_true, decide_eq_true_eq]; omega
      have h1 : rgOk 1 = true := rfl
      rw [evE, ha]; simp only [ai, hg, h1, Bool.and_self, if_true]
    have hi : iterV (.rng 1 l.length 1) = some ((List.range' 1 (l.length - 1)).map fun (z : Nat) => Atom.int z) := by
      have hg : rgOk (l.length : Int) = true := by simp only [rgOk, Bool.and_eq_true, decide_eq_true_eq]; omega
      have hs : small ((l.length : Int) - 1).toNat = true := by simp only [small, decide_eq_true_eq]; omega
      have h0 : rgOk 1 = true := rfl
      simp only [iterV, hg, h0, Bool.and_true, if_true, rangeInts, hs, Option.map_some]
      have := range_map 1 (l.length - 1) Atom.int
      rw [show ((l.length : Int) - 1).toNat = l.length - 1 by omega]; exact congrArg some this
    have o : hasOwn ⟨[some (as (tx l)), none, none, none], fl⟩ = false := rfl
    have c1 : capsOf [0] ⟨[some (as (tx l)), none, none, none], fl⟩ = some [as (tx l)] := rfl
    rw [evE, o, hr]; simp only [hi, c1, Bool.false_eq_true, if_false, List.map_cons, List.map_nil]
    have key : evMapIf (fun a fl => evE tabs (cl n) (.bin .add (.var 0) (.int 1)) ⟨[some (.at a), some (as (tx l))], fl⟩)
        (fun a fl => match evE tabs (cl n) (.and (.cons (.cmp .isin (.idx (.var 1) (.bin .sub (.var 0) (.int 1))) (.glob (.ofString "_law_vowels"))) (.cons (.cmp .notin (.idx (.var 1) (.var 0)) (.glob (.ofString "_law_vowels"))) .nil))) ⟨[some (.at a), some (as (tx l))], fl⟩ with | some (v, fl') => (truth v).map fun b => (b, fl') | none => none)
        ((List.range' 1 (l.length - 1)).map fun (z : Nat) => Atom.int z) fl = some ((bl false 0 l).map fun (z : Nat) => Atom.int z, fl) := by
      cases l with
      | nil => rfl
      | cons p t =>
        have := mapIf (fl := fl) (l := p :: t) (σw := ai 0) (f := fun a fl => evE tabs (cl n) (.bin .add (.var 0) (.int 1)) ⟨[some (.at a), some (as (tx (p :: t)))], fl⟩)
          (c := fun a fl => match evE tabs (cl n) (.and (.cons (.cmp .isin (.idx (.var 1) (.bin .sub (.var 0) (.int 1))) (.glob (.ofString "_law_vowels"))) (.cons (.cmp .notin (.idx (.var 1) (.var 0)) (.glob (.ofString "_law_vowels"))) .nil))) ⟨[some (.at a), some (as (tx (p :: t)))], fl⟩ with | some (v, fl') => (truth v).map fun b => (b, fl') | none => none)
          (fun i => ?_) (fun pre t' p' x h => ?_) t [] p rfl
        · have eb : bl false 0 (p :: t) = bl (isV p) 1 t := by simp [bl]
          rw [eb]; exact this
        · exact E_bin (v := ai ((i + 1 : Nat) : Int)) (E_var rfl) E_int rfl
        · rw [h] at hl ⊢
          have hsz : (pre ++ p' :: x :: t').length < 1000 := by omega
          have g1 : idxV (as (tx (pre ++ p' :: x :: t'))) (ai ((pre.length : Nat) : Int)) = some (as (chr1 p')) := idx_tx (sm hsz) (by simp)
          have g2 : idxV (as (tx (pre ++ p' :: x :: t'))) (ai ((pre.length + 1 : Nat) : Int)) = some (as (chr1 x)) := idx_tx (sm hsz) (by simp)
          have hand : evE tabs (cl n) (.and (.cons (.cmp .isin (.idx (.var 1) (.bin .sub (.var 0) (.int 1))) (.glob (.ofString "_law_vowels"))) (.cons (.cmp .notin (.idx (.var 1) (.var 0)) (.glob (.ofString "_law_vowels"))) .nil))) ⟨[some (ai ((pre.length + 1 : Nat) : Int)), some (as (tx (pre ++ p' :: x :: t')))], fl⟩ = some (ab (isV p' && !isV x), fl) := by
            refine E_and2 (E_cmp (E_idx (E_var rfl) (E_bin (v := ai ((pre.length : Nat) : Int)) (E_var rfl) E_int (sub_ai (by omega))) g1) glob_v (inV_set vow p')) (fun _ => E_cmp (E_idx (E_var rfl) (E_var rfl) g2) glob_v ?_); show (inV (chr1 x) (setL vow)).map (!·) = _; rw [inV_set]; rfl
          show (match evE tabs (cl n) _ ⟨[some (ai ((pre.length + 1 : Nat) : Int)), some (as (tx (pre ++ p' :: x :: t')))], fl⟩ with | some (v, fl') => (truth v).map fun b => (b, fl') | none => none) = _
          rw [hand]; rfl
    exact congrArg (Option.map fun r : List Atom × FL => (AV.list r.1, r.2)) key
  have hbl : (bl false 0 l).length ≤ l.length := by
    have : ∀ (t : List Nat) (v : Bool) (i : Nat), (bl v i t).length ≤ t.length := by
      intro t
      induction t with
      | nil => intro v i; exact Nat.le_refl _
      | cons x t ih =>
        intro v i
        rw [bl]
        split
        · have := ih false (i + 1); simp only [List.length_cons]; omega
        · have := ih (isV x) (i + 1); simp only [List.length_cons]; omega
    exact this l false 0
  rw [B_next (σ' := ⟨[some (as (tx l)), some (.list ((bl false 0 l).map fun (z : Nat) => Atom.int z)), none, none], fl⟩) (S_assign hcomp rfl rfl)]; unfold first second; generalize bl false 0 l = B at hbl
  have hlB : lenV (.list (B.map fun (z : Nat) => Atom.int z)) = some (ai B.length) := by
    unfold lenV; simp only [List.length_map, sm (show B.length < 1000 by omega), if_true]
  have t1 : ∀ (m : Nat) (x2 : Option AV), evE tabs (cl n) (.cmp .gt (.len (.var 1)) (.int m)) ⟨[some (as (tx l)), some (.list (B.map fun (z : Nat) => Atom.int z)), x2, none], fl⟩ = some (ab (decide (B.length > m)), fl) := by
    intro m x2
    refine E_cmp (E_len (E_var rfl) hlB) E_int ?_; show some (decide ((B.length : Int) > m)) = _; rw [decide_eq_decide.mpr (show (B.length : Int) > m ↔ B.length > m by omega)]
  have ix : ∀ (i x : Nat) (x2 : Option AV), B[i]? = some x → evE tabs (cl n) (.idx (.var 1) (.int i)) ⟨[some (as (tx l)), some (.list (B.map fun (z : Nat) => Atom.int z)), x2, none], fl⟩ = some (ai x, fl) := by
    intro i x x2 hx
    refine E_idx (E_var rfl) E_int ?_; unfold idxV ai; simp [sm (show B.length < 1000 by omega), hx]
  have tl : ∀ (x2 : Option AV), evE tabs (cl n) (.len (.var 0)) ⟨[some (as (tx l)), some (.list (B.map fun (z : Nat) => Atom.int z)), x2, none], fl⟩ = some (ai l.length, fl) := fun x2 => E_len (E_var rfl) hlen
  rcases B with _ | ⟨b0, B⟩
  · have e2 : evE tabs (cl n) (.ite (.cmp .gt (.len (.var 1)) (.int 0)) (.max (.int 3) (.idx (.var 1) (.int 0))) (.len (.var 0))) ⟨[some (as (tx l)), some (.list ([].map fun (z : Nat) => Atom.int z)), none, none], fl⟩ = some (ai l.length, fl) := (E_ite (t1 0 none)).trans (tl none)
    rw [B_next (σ' := ⟨[some (as (tx l)), some (.list ([].map fun (z : Nat) => Atom.int z)), some (ai l.length), none], fl⟩) (S_assign e2 rfl rfl)]
    have e3 : evE tabs (cl n) (.ite (.cmp .gt (.len (.var 1)) (.int 1)) (.idx (.var 1) (.int 1)) (.len (.var 0))) ⟨[some (as (tx l)), some (.list ([].map fun (z : Nat) => Atom.int z)), some (ai l.length), none], fl⟩ = some (ai l.length, fl) := (E_ite (t1 1 _)).trans (tl _)
    rw [B_next (σ' := ⟨[some (as (tx l)), some (.list ([].map fun (z : Nat) => Atom.int z)), some (ai l.length), some (ai l.length)], fl⟩) (S_assign e3 rfl rfl)]; rw [B_ret (S_ret (v := .tup [.int l.length, .int l.length]) (E_tup2 (E_var rfl) (E_var rfl)) rfl)]; rfl
  · have e2 : evE tabs (cl n) (.ite (.cmp .gt (.len (.var 1)) (.int 0)) (.max (.int 3) (.idx (.var 1) (.int 0))) (.len (.var 0))) ⟨[some (as (tx l)), some (.list ((b0 :: B).map fun (z : Nat) => Atom.int z)), none, none], fl⟩ = some (ai ((max 3 b0 : Nat) : Int), fl) := by
      refine (E_ite (t1 0 none)).trans ?_
      have hh : decide ((b0 :: B).length > 0) = true := by simp
      rw [hh, if_pos rfl, evE, E_int]
      have := ix 0 b0 none rfl
      simp only [ai] at this ⊢; rw [show ((0 : Nat) : Int) = 0 from rfl] at this; simp only [this]
      by_cases hb : (b0 : Int) > 3
      · rw [if_pos hb, show max 3 b0 = b0 by omega]
      · rw [if_neg hb, show max 3 b0 = 3 by omega]; rfl
    rw [B_next (σ' := ⟨[some (as (tx l)), some (.list ((b0 :: B).map fun (z : Nat) => Atom.int z)), some (ai ((max 3 b0 : Nat) : Int)), none], fl⟩) (S_assign e2 rfl rfl)]
    rcases B with _ | ⟨b1, B⟩
    · have e3 : evE tabs (cl n) (.ite (.cmp .gt (.len (.var 1)) (.int 1)) (.idx (.var 1) (.int 1)) (.len (.var 0))) ⟨[some (as (tx l)), some (.list ([b0].map fun (z : Nat) => Atom.int z)), some (ai ((max 3 b0 : Nat) : Int)), none], fl⟩ = some (ai l.length, fl) := (E_ite (t1 1 _)).trans (tl _)
      rw [B_next (σ' := ⟨[some (as (tx l)), some (.list ([b0].map fun (z : Nat) => Atom.int z)), some (ai ((max 3 b0 : Nat) : Int)), some (ai l.length)], fl⟩) (S_assign e3 rfl rfl)]; rw [B_ret (S_ret (v := .tup [.int ((max 3 b0 : Nat) : Int), .int l.length]) (E_tup2 (E_var rfl) (E_var rfl)) rfl)]; rfl
    · have e3 : evE tabs (cl n) (.ite (.cmp .gt (.len (.var 1)) (.int 1)) (.idx (.var 1) (.int 1)) (.len (.var 0))) ⟨[some (as (tx l)), some (.list ((b0 :: b1 :: B).map fun (z : Nat) => Atom.int z)), some (ai ((max 3 b0 : Nat) : Int)), none], fl⟩ = some (ai b1, fl) := by
        refine (E_ite (t1 1 _)).trans ?_
        have hh : decide ((b0 :: b1 :: B).length > 1) = true := by simp
        rw [hh, if_pos rfl]; exact ix 1 b1 _ rfl
      rw [B_next (σ' := ⟨[some (as (tx l)), some (.list ((b0 :: b1 :: B).map fun (z : Nat) => Atom.int z)), some (ai ((max 3 b0 : Nat) : Int)), some (ai b1)], fl⟩) (S_assign e3 rfl rfl)]; rw [B_ret (S_ret (v := .tup [.int ((max 3 b0 : Nat) : Int), .int b1]) (E_tup2 (E_var rfl) (E_var rfl)) rfl)]; rfl
end Mine
namespace Mine
variable {n : Nat} {Γ : Call} {N : Nat} {fl : FL} {r e s : List Nat} {p q : Nat} {x3 x4 x5 x6 x7 : Option AV}
abbrev W (r : List Nat) (p q : Nat) (x3 x4 x5 x6 x7 : Option AV) : List (Option AV) := [some (as (tx r.reverse)), some (ai p), some (ai q), x3, x4, x5, x6, x7]
theorem own_W (o3 : okv x3 = true) (o4 : okv x4 = true) (o5 : okv x5 = true) (o6 : okv x6 = true) (o7 : okv x7 = true) (fl : FL) : hasOwn ⟨W r p q x3 x4 x5 x6 x7, fl⟩ = false := by simp [hasOwn_eq, o3, o4, o5, o6, o7, as, ai]
theorem strsOf_tx : ∀ es : List (List Nat), strsOf (es.map fun e => Atom.str (tx e)) = some (es.map tx)
  | [] => rfl
  | e :: es => by rw [List.map_cons, strsOf, strsOf_tx es]; rfl
theorem inV_strs (es : List (List Nat)) (k : List Nat) : inV (tx k) (strsL es) = some (es.any (· == k)) := by
  unfold inV strsL; simp only [strsOf_tx, Option.map_some, List.any_map]
  congr 2
  funext e
  exact tx_beq e k
theorem E_isin {T : Tabs} {σ : AS} {i : Nat} {k : List Nat} {es : List (List Nat)} (h : σ.loc[i]? = some (some (as (tx k)))) (hs : es.length < 1000) : evE T Γ (.cmp .isin (.var i) (.list (strsCA es))) σ = some (ab (es.any (· == k)), σ.fl) :=
  E_cmp (E_var h) (E_strs hs) (inV_strs es k)
theorem E_eqs {T : Tabs} {σ : AS} {i : Nat} {k y : List Nat} (h : σ.loc[i]? = some (some (as (tx k)))) : evE T Γ (.cmp .eq (.var i) (.str (tx y))) σ = some (ab (k == y), σ.fl) :=
  E_cmp (E_var h) E_str (congrArg some (tx_beq k y))
theorem E_nes {T : Tabs} {σ : AS} {i : Nat} {k y : List Nat} (h : σ.loc[i]? = some (some (as (tx k)))) : evE T Γ (.cmp .ne (.var i) (.str (tx y))) σ = some (ab (k != y), σ.fl) :=
  E_cmp (E_var h) E_str (congrArg some (by rw [bne, bne, tx_beq]))
theorem E_ge {T : Tabs} {σ : AS} {i j : Nat} {p : Nat} (h : σ.loc[i]? = some (some (as (tx s.reverse)))) (hj : σ.loc[j]? = some (some (ai p))) (hs : s.length < 1000) : evE T Γ (.cmp .ge (.len (.var i)) (.var j)) σ = some (ab (decide (p ≤ s.length)), σ.fl) := by
  refine E_cmp (E_len (E_var h) (len_R hs)) (E_var hj) ?_; show some (decide ((s.length : Int) ≥ p)) = _; rw [decide_eq_decide.mpr (show (s.length : Int) ≥ p ↔ p ≤ s.length by omega)]
theorem E_endr {T : Tabs} {σ : AS} {i : Nat} {y : List Nat} (h : σ.loc[i]? = some (some (as (tx s.reverse)))) (hs : s.length < 1000) (hy : y.length < 1000) : evE T Γ (.endswith (.var i) (.str (tx y))) σ = some (ab (y.reverse.isPrefixOf s), σ.fl) :=
  E_ends (E_var h) E_str (ends_R hs hy)
theorem E_cut {T : Tabs} {σ : AS} {i j : Nat} {k : List Nat} (h : σ.loc[i]? = some (some (as (tx (e ++ s).reverse)))) (hj : σ.loc[j]? = some (some (as (tx k)))) (hk : k.length = e.length) (hs : (e ++ s).length < 1000) : evE T Γ (.sliceTo (.var i) (.bin .sub (.len (.var i)) (.len (.var j)))) σ = some (as (tx s.reverse), σ.fl) := by
  have h' := hs
  rw [List.length_append] at h'; exact E_sliceTo (h := s.length) (E_var h) (E_bin (E_len (E_var h) (len_R hs)) (E_len (E_var hj) (len_tx (sm (by omega)))) (sub_ai (by rw [List.length_append]; omega))) (cut_R hs)
theorem E_cutn {T : Tabs} {σ : AS} {i : Nat} {m : Int} (h : σ.loc[i]? = some (some (as (tx (e ++ s).reverse)))) (hm : m = e.length) (hs : (e ++ s).length < 1000) : evE T Γ (.sliceTo (.var i) (.bin .sub (.len (.var i)) (.int m))) σ = some (as (tx s.reverse), σ.fl) :=
  E_sliceTo (h := s.length) (E_var h) (E_bin (E_len (E_var h) (len_R hs)) E_int (sub_ai (by rw [List.length_append]; omega))) (cut_R hs)
abbrev ends3 : List (List Nat) := [[104, 101, 100, 101, 110], [101, 110, 101], [101, 110], [115, 101], [115]]
theorem end3_key (r : List Nat) : ∃ e s z, r = e ++ s ∧ end3 r = (e.length, z) ∧ lend ends3 r.reverse = e.reverse ∧
    ((e = [110, 101, 100, 101, 104] ∧ z = 1) ∨ (e = [101, 110, 101] ∧ z = 2) ∨ (e = [110, 101] ∧ z = 2) ∨ (e = [101, 115] ∧ z = 3) ∨ (e = [115] ∧ z = 3) ∨ (e = [] ∧ z = 0)) := by
  unfold lend end3; simp only [List.foldl_cons, List.foldl_nil, pick, sfx, List.reverse_cons, List.reverse_nil, List.nil_append, List.cons_append]
  cases hA : [110, 101, 100, 101, 104].isPrefixOf r
  · cases hB : [101, 110, 101].isPrefixOf r
    · cases hC : [110, 101].isPrefixOf r
      · cases hD : [101, 115].isPrefixOf r
        · cases hE : [115].isPrefixOf r
          · exact ⟨[], r, 0, rfl, rfl, rfl, by simp⟩
          · obtain ⟨s, rfl⟩ := pre_ex hE; exact ⟨[115], s, 3, rfl, rfl, rfl, by simp⟩
        · obtain ⟨s, rfl⟩ := pre_ex hD; exact ⟨[101, 115], s, 3, rfl, rfl, by cases [115].isPrefixOf ([101, 115] ++ s) <;> rfl, by simp⟩
      · obtain ⟨s, rfl⟩ := pre_ex hC; exact ⟨[110, 101], s, 2, rfl, rfl, by cases [115].isPrefixOf ([110, 101] ++ s) <;> cases [101, 115].isPrefixOf ([110, 101] ++ s) <;> rfl, by simp⟩
    · obtain ⟨s, rfl⟩ := pre_ex hB; exact ⟨[101, 110, 101], s, 2, rfl, rfl, by cases [115].isPrefixOf ([101, 110, 101] ++ s) <;> cases [101, 115].isPrefixOf ([101, 110, 101] ++ s) <;> cases [110, 101].isPrefixOf ([101, 110, 101] ++ s) <;> rfl, by simp⟩
  · obtain ⟨s, rfl⟩ := pre_ex hA; exact ⟨[110, 101, 100, 101, 104], s, 1, rfl, rfl, by cases [115].isPrefixOf ([110, 101, 100, 101, 104] ++ s) <;> cases [101, 115].isPrefixOf ([110, 101, 100, 101, 104] ++ s) <;> cases [110, 101].isPrefixOf ([110, 101, 100, 101, 104] ++ s) <;> cases [101, 110, 101].isPrefixOf ([110, 101, 100, 101, 104] ++ s) <;> rfl, by simp⟩
theorem add_js : binV .add (setL vow) (.list [.str (chr1 106)]) = some (setL (vow ++ [106])) := rfl
theorem add_Is : binV .add (setL vow) (.list [.str (chr1 73)]) = some (setL (vow ++ [73])) := rfl
theorem vj_eq (x : Nat) : (vow ++ [106]).contains x = isVj x := by
  unfold isVj; simp only [List.cons_append, List.nil_append, List.contains_cons, List.contains_nil]
  cases x == 97 <;> cases x == 101 <;> cases x == 105 <;> cases x == 106 <;> cases x == 111 <;> cases x == 117 <;> cases x == 121 <;> cases x == 232 <;> rfl
theorem vI_eq (x : Nat) : (vow ++ [73]).contains x = isVI x := by
  unfold isVI; simp only [List.cons_append, List.nil_append, List.contains_cons, List.contains_nil]
  cases x == 97 <;> cases x == 101 <;> cases x == 105 <;> cases x == 73 <;> cases x == 111 <;> cases x == 117 <;> cases x == 121 <;> cases x == 232 <;> rfl
theorem E_vj {σ : AS} : evE tabs Γ (.bin .add (.glob (.ofString "_law_vowels")) (.list (.cons (.str ⟨#[106]⟩) .nil))) σ = some (setL (vow ++ [106]), σ.fl) :=
  E_bin glob_v (E_strs (es := [[106]]) (by decide)) add_js
theorem E_vI {σ : AS} : evE tabs Γ (.bin .add (.glob (.ofString "_law_vowels")) (.list (.cons (.str ⟨#[73]⟩) .nil))) σ = some (setL (vow ++ [73]), σ.fl) :=
  E_bin glob_v (E_strs (es := [[73]]) (by decide)) add_Is
theorem shutj_eq (s : List Nat) : shutBy isVj s = shutj s := by cases s <;> rfl
theorem add_R {y : List Nat} (hs : s.length < 900) (hy : y.length < 90) : binV .add (as (tx s.reverse)) (as (tx y)) = some (as (tx (y.reverse ++ s).reverse)) := by
  have := add_tx (x := s.reverse) (y := y) (by simp only [small, decide_eq_true_eq, List.length_reverse]; omega)
  rw [List.reverse_append, List.reverse_reverse]; exact this
abbrev sA3 : CS := .assign 3 (.callG 30 (.cons (.var 0) (.cons (.list (strsCA ends3)) .nil)))
abbrev sA4 : CS := .assign 4 (.sliceTo (.var 0) (.bin .sub (.len (.var 0)) (.len (.var 3))))
abbrev sA5 : CS := .ite (.cmp .isin (.var 3) (.list (strsCA [[101, 110, 101], [101, 110]]))) (.cons (.assign 0 (.callG 33 (.cons (.var 0) (.cons (.var 3) (.cons (.var 1) .nil))))) .nil) (.cons (.ite (.and (.cons (.cmp .eq (.var 3) (.str (tx [104, 101, 100, 101, 110]))) (.cons (.cmp .ge (.len (.var 4)) (.var 1)) .nil))) (.cons (.assign 0 (.bin .add (.var 4) (.str (tx [104, 101, 105, 100])))) .nil) (.cons (.ite (.and (.cons (.cmp .isin (.var 3) (.list (strsCA [[115, 101], [115]]))) (.cons (.cmp .ge (.len (.var 4)) (.var 1)) (.cons (.callG 31 (.cons (.var 4) (.cons (.bin .add (.glob (.ofString "_law_vowels")) (.list (.cons (.str ⟨#[106]⟩) .nil))) .nil))) .nil)))) (.cons (.assign 0 (.var 4)) .nil) .nil) .nil)) .nil)
theorem lawA (hr : r.length < 900) (hP : 3 ≤ p ∨ r.length ≤ p) (rest : CB) : ∃ y3 y4, okv y3 = true ∧ okv y4 = true ∧
    evB tabs (cl (n + 4)) 1000 (.cons sA3 (.cons sA4 (.cons sA5 rest))) ⟨W r p q none none none none none, fl⟩ = evB tabs (cl (n + 4)) 1000 rest ⟨W (step1 p r) p q y3 y4 none none none, fl⟩ := by
  obtain ⟨e, s, z, hes, h3, hk, hz⟩ := end3_key r
  have hlen := congrArg List.length hes
  rw [List.length_append] at hlen; refine ⟨some (as (tx e.reverse)), some (as (tx s.reverse)), rfl, rfl, ?_⟩
  have he := ending_spec (n := n + 3) (fl := fl) (w := r.reverse) (es := ends3) (by rw [List.length_reverse]; omega) (by decide) (by decide)
  rw [hk] at he
  have hc : evE tabs (cl (n + 4)) (.callG 30 (.cons (.var 0) (.cons (.list (strsCA ends3)) .nil))) ⟨W r p q none none none none none, fl⟩ = _ := E_callG (A2 (E_var rfl) (E_strs (by decide))) rfl rfl he
  rw [B_next (σ' := ⟨W r p q (some (as (tx e.reverse))) none none none none, fl⟩) (S_assign hc rfl rfl)]
  have h4 : evE tabs (cl (n + 4)) (.sliceTo (.var 0) (.bin .sub (.len (.var 0)) (.len (.var 3)))) ⟨W r p q (some (as (tx e.reverse))) none none none none, fl⟩ = some (as (tx s.reverse), fl) := E_cut (e := e) (by rw [← hes]; rfl) rfl (by simp) (by rw [← hes]; omega)
  rw [B_next (σ' := ⟨W r p q (some (as (tx e.reverse))) (some (as (tx s.reverse))) none none none, fl⟩) (S_assign h4 rfl rfl)]
  have hd : r.drop e.length = s := by
    conv => lhs; rw [hes]
    rw [List.drop_left]
  have hst : step1 p r = (if z = 0 then r else if z = 1 then (if p ≤ s.length then [100, 105, 101, 104] ++ s else r) else if z = 2 then lessEn p r s else if decide (p ≤ s.length) && shutj s then s else r) := by
    unfold step1; rw [h3]; simp only [hd]
  rw [hst]; clear hst hc he h4
  have hg : evE tabs (cl (n + 4)) (.cmp .ge (.len (.var 4)) (.var 1)) ⟨W r p q (some (as (tx e.reverse))) (some (as (tx s.reverse))) none none none, fl⟩ = some (ab (decide (p ≤ s.length)), fl) := E_ge rfl rfl (by omega)
  have hne : 0 < e.length → p ≤ s.length → s ≠ [] := by
    intro h0 h1 h2
    rw [h2] at h1 hlen; simp at h1 hlen; omega
  have en : ∀ e' : List Nat, e = e' → 0 < e'.length → (([[101, 110, 101], [101, 110]] : List (List Nat)).any (· == e'.reverse)) = true → evS tabs (cl (n + 4)) 1000 sA5 ⟨W r p q (some (as (tx e.reverse))) (some (as (tx s.reverse))) none none none, fl⟩ = some (⟨W (lessEn p r s) p q (some (as (tx e.reverse))) (some (as (tx s.reverse))) none none none, fl⟩, .next) := by
    intro e' he' h0 hin
    subst he'
    have t := T_of (E_isin (T := tabs) (Γ := cl (n + 4)) (σ := ⟨W r p q (some (as (tx e.reverse))) (some (as (tx s.reverse))) none none none, fl⟩) (i := 3) (k := e.reverse) (es := [[101, 110, 101], [101, 110]]) rfl (by decide))
    rw [hin] at t
    have hle := less_en_spec (n := n + 1) (fl := fl) (e := e) (s := s) (p := p) (y := e.reverse) (by simp) (by rw [← hes]; omega) (hne h0)
    rw [← hes] at hle
    have hc : evE tabs (cl (n + 4)) (.callG 33 (.cons (.var 0) (.cons (.var 3) (.cons (.var 1) .nil)))) ⟨W r p q (some (as (tx e.reverse))) (some (as (tx s.reverse))) none none none, fl⟩ = _ := E_callG (A3 (E_var rfl) (E_var rfl) (E_var rfl)) rfl rfl hle
    exact (S_true t).trans ((B_next (S_assign hc rfl rfl)).trans B_nil)
  have noen : (([[101, 110, 101], [101, 110]] : List (List Nat)).any (· == e.reverse)) = false → evS tabs (cl (n + 4)) 1000 sA5 ⟨W r p q (some (as (tx e.reverse))) (some (as (tx s.reverse))) none none none, fl⟩ = evS tabs (cl (n + 4)) 1000 (.ite (.and (.cons (.cmp .eq (.var 3) (.str (tx [104, 101, 100, 101, 110]))) (.cons (.cmp .ge (.len (.var 4)) (.var 1)) .nil))) (.cons (.assign 0 (.bin .add (.var 4) (.str (tx [104, 101, 105, 100])))) .nil) (.cons (.ite (.and (.cons (.cmp .isin (.var 3) (.list (strsCA [[115, 101], [115]]))) (.cons (.cmp .ge (.len (.var 4)) (.var 1)) (.cons (.callG 31 (.cons (.var 4) (.cons (.bin .add (.glob (.ofString "_law_vowels")) (.list (.cons (.str ⟨#[106]⟩) .nil))) .nil))) .nil)))) (.cons (.assign 0 (.var 4)) .nil) .nil) .nil)) ⟨W r p q (some (as (tx e.reverse))) (some (as (tx s.reverse))) none none none, fl⟩ := by
    intro hin
    have t := T_of (E_isin (T := tabs) (Γ := cl (n + 4)) (σ := ⟨W r p q (some (as (tx e.reverse))) (some (as (tx s.reverse))) none none none, fl⟩) (i := 3) (k := e.reverse) (es := [[101, 110, 101], [101, 110]]) rfl (by decide))
    rw [hin] at t; rw [S_false t, B_one]
  have th : evT tabs (cl (n + 4)) (.and (.cons (.cmp .eq (.var 3) (.str (tx [104, 101, 100, 101, 110]))) (.cons (.cmp .ge (.len (.var 4)) (.var 1)) .nil))) ⟨W r p q (some (as (tx e.reverse))) (some (as (tx s.reverse))) none none none, fl⟩ = some ((e.reverse == [104, 101, 100, 101, 110]) && decide (p ≤ s.length), fl) := T_of (E_and2 (E_eqs rfl) (fun _ => hg))
  have ts : ∀ b : Bool, (([[115, 101], [115]] : List (List Nat)).any (· == e.reverse)) = b → (b = true → 0 < e.length) → evT tabs (cl (n + 4)) (.and (.cons (.cmp .isin (.var 3) (.list (strsCA [[115, 101], [115]]))) (.cons (.cmp .ge (.len (.var 4)) (.var 1)) (.cons (.callG 31 (.cons (.var 4) (.cons (.bin .add (.glob (.ofString "_law_vowels")) (.list (.cons (.str ⟨#[106]⟩) .nil))) .nil))) .nil)))) ⟨W r p q (some (as (tx e.reverse))) (some (as (tx s.reverse))) none none none, fl⟩ = some (b && (decide (p ≤ s.length) && shutj s), fl) := by
    intro b hb h0
    refine T_of (E_and3 ((E_isin rfl (by decide)).trans (by rw [hb])) (fun _ => hg) (fun hb1 hq => ?_)); rw [← shutj_eq]; exact call_shut (n := n + 3) (v := isVj) E_vj vj_eq (by rfl) (by rfl) (by omega) (hne (h0 hb1) (of_decide_eq_true hq))
  rcases hz with ⟨h1, h2⟩ | ⟨h1, h2⟩ | ⟨h1, h2⟩ | ⟨h1, h2⟩ | ⟨h1, h2⟩ | ⟨h1, h2⟩
  · subst h2
    have e1 := noen (by rw [h1]; decide)
    rw [if_neg (by decide), if_pos rfl]
    have hrev : (e.reverse == [104, 101, 100, 101, 110]) = true := by rw [h1]; decide
    rw [hrev] at th
    by_cases hp : p ≤ s.length
    · rw [if_pos hp]
      have hb := add_R (s := s) (y := [104, 101, 105, 100]) (by omega) (by decide)
      have ha : evE tabs (cl (n + 4)) (.bin .add (.var 4) (.str (tx [104, 101, 105, 100]))) ⟨W r p q (some (as (tx e.reverse))) (some (as (tx s.reverse))) none none none, fl⟩ = _ := E_bin (E_var rfl) E_str hb
      rw [B_next (e1.trans ((S_true (T_val th (by simp [hp]))).trans ((B_next (S_assign ha rfl rfl)).trans B_nil)))]; rfl
    · rw [if_neg hp]
      have hts := ts false (by rw [h1]; decide) (by simp)
      rw [B_next (e1.trans ((S_false (T_val th (by simp [hp]))).trans ((B_skip hts).trans B_nil)))]
  · subst h2
    rw [if_neg (by decide), if_neg (by decide), if_pos rfl]; rw [B_next (en _ h1 (by decide) (by decide))]
  · subst h2
    rw [if_neg (by decide), if_neg (by decide), if_pos rfl]; rw [B_next (en _ h1 (by decide) (by decide))]
  · subst h2
    rw [if_neg (by decide), if_neg (by decide), if_neg (by decide)]
    have e1 := noen (by rw [h1]; decide)
    have hrev : (e.reverse == [104, 101, 100, 101, 110]) = false := by rw [h1]; decide
    rw [hrev] at th
    have hts := ts true (by rw [h1]; decide) (by rw [h1]; simp)
    cases hh : decide (p ≤ s.length) && shutj s with
    | true =>
      rw [hh] at hts; rw [B_next (e1.trans ((S_false th).trans (B_one.trans ((S_true hts).trans ((B_next (S_assign (E_var rfl) rfl rfl)).trans B_nil)))))]; rfl
    | false =>
      rw [hh] at hts; rw [B_next (e1.trans ((S_false th).trans ((B_skip hts).trans B_nil)))]; rfl
  · subst h2
    rw [if_neg (by decide), if_neg (by decide), if_neg (by decide)]
    have e1 := noen (by rw [h1]; decide)
    have hrev : (e.reverse == [104, 101, 100, 101, 110]) = false := by rw [h1]; decide
    rw [hrev] at th
    have hts := ts true (by rw [h1]; decide) (by rw [h1]; simp)
    cases hh : decide (p ≤ s.length) && shutj s with
    | true =>
      rw [hh] at hts; rw [B_next (e1.trans ((S_false th).trans (B_one.trans ((S_true hts).trans ((B_next (S_assign (E_var rfl) rfl rfl)).trans B_nil)))))]; rfl
    | false =>
      rw [hh] at hts; rw [B_next (e1.trans ((S_false th).trans ((B_skip hts).trans B_nil)))]; rfl
  · subst h2
    rw [if_pos rfl]
    have e1 := noen (by rw [h1]; decide)
    have hrev : (e.reverse == [104, 101, 100, 101, 110]) = false := by rw [h1]; decide
    rw [hrev] at th
    have hts := ts false (by rw [h1]; decide) (by simp)
    rw [B_next (e1.trans ((S_false th).trans ((B_skip hts).trans B_nil)))]
end Mine
namespace Mine
variable {n : Nat} {Γ : Call} {N : Nat} {fl : FL} {r e s : List Nat} {p q : Nat} {x3 x4 x5 x6 x7 : Option AV}
theorem lessE_lt {t : List Nat} (h : lessE p r = some t) : t.length < r.length := by
  unfold lessE at h
  split at h
  · cases h
  · rename_i x s
    split at h
    · cases h; have := single_len s; simp only [List.length_cons]; omega
    · cases h
theorem ne_some : (((lessE p r).getD r).reverse != r.reverse) = (lessE p r).isSome := by
  cases h : lessE p r with
  | none => simp
  | some t =>
    have := lessE_lt h
    simp only [Option.getD_some, Option.isSome_some, bne_iff_ne, ne_eq]
    intro q
    have q2 := congrArg List.length q
    simp only [List.length_reverse] at q2; omega
theorem lawB (hr : r.length < 900) (hP : 3 ≤ p ∨ r.length ≤ p) (o3 : okv x3 = true) (o4 : okv x4 = true) (rest : CB) :
    evB tabs (cl (n + 4)) 1000 (.cons (.assign 4 (.callG 34 (.cons (.var 0) (.cons (.var 1) .nil)))) (.cons (.assign 5 (.cmp .ne (.var 4) (.var 0))) (.cons (.assign 0 (.var 4)) rest))) ⟨W r p q x3 x4 none none none, fl⟩ =
    evB tabs (cl (n + 4)) 1000 rest ⟨W (step2 p r) p q x3 (some (as (tx (step2 p r).reverse))) (some (ab (lessE p r).isSome)) none none, fl⟩ := by
  have hle := less_e_spec (n := n + 1) (fl := fl) (r := r) (p := p) (by omega) (by rintro x s rfl h1 rfl; simp at h1 hP; omega)
  have hc : evE tabs (cl (n + 4)) (.callG 34 (.cons (.var 0) (.cons (.var 1) .nil))) ⟨W r p q x3 x4 none none none, fl⟩ = _ := E_callG (A2 (E_var rfl) (E_var rfl)) rfl (own_W o3 o4 rfl rfl rfl _) hle
  rw [B_next (σ' := ⟨W r p q x3 (some (as (tx (step2 p r).reverse))) none none none, fl⟩) (S_assign hc rfl (by simp [okSet_eq, o4]))]
  have hn : evE tabs (cl (n + 4)) (.cmp .ne (.var 4) (.var 0)) ⟨W r p q x3 (some (as (tx (step2 p r).reverse))) none none none, fl⟩ = some (ab (lessE p r).isSome, fl) := by
    refine E_cmp (E_var rfl) (E_var rfl) ?_; show some (tx _ != tx _) = _; rw [bne, tx_beq]
    have := ne_some (p := p) (r := r)
    rw [bne] at this; exact congrArg some this
  rw [B_next (σ' := ⟨W r p q x3 (some (as (tx (step2 p r).reverse))) (some (ab (lessE p r).isSome)) none none, fl⟩) (S_assign hn rfl rfl)]; rw [B_next (σ' := ⟨W (step2 p r) p q x3 (some (as (tx (step2 p r).reverse))) (some (ab (lessE p r).isSome)) none none, fl⟩) (S_assign (E_var rfl) rfl rfl)]
theorem pre1 (y : Nat) (s : List Nat) : [y].isPrefixOf s = (s.head? == some y) := by
  cases s with
  | nil => rfl
  | cons x s =>
    have : (y == x) = (x == y) := by
      by_cases q : x = y
      · subst q; rfl
      · rw [beq_eq_false_iff_ne.mpr q, beq_eq_false_iff_ne.mpr (Ne.symm q)]
    simp [List.isPrefixOf, this]
abbrev sC : CS := .ite (.endswith (.var 0) (.str (tx [104, 101, 105, 100]))) (.cons (.assign 4 (.sliceTo (.var 0) (.bin .sub (.len (.var 0)) (.int 4)))) (.cons (.ite (.and (.cons (.cmp .ge (.len (.var 4)) (.var 2)) (.cons (.not (.endswith (.var 4) (.str (tx [99])))) .nil))) (.cons (.assign 0 (.ite (.endswith (.var 4) (.str (tx [101, 110]))) (.callG 33 (.cons (.var 4) (.cons (.str (tx [101, 110])) (.cons (.var 1) .nil)))) (.var 4))) .nil) .nil) .nil)) .nil
theorem lawC (hr : r.length < 900) (hP : 3 ≤ p ∨ r.length ≤ p) (o3 : okv x3 = true) (o4 : okv x4 = true) (o5 : okv x5 = true) (rest : CB) : ∃ y4, okv y4 = true ∧
    evB tabs (cl (n + 4)) 1000 (.cons sC rest) ⟨W r p q x3 x4 x5 none none, fl⟩ = evB tabs (cl (n + 4)) 1000 rest ⟨W (step3 p q r) p q x3 y4 x5 none none, fl⟩ := by
  have t1 := T_of (E_endr (T := tabs) (Γ := cl (n + 4)) (σ := ⟨W r p q x3 x4 x5 none none, fl⟩) (i := 0) (s := r) (y := [104, 101, 105, 100]) rfl (by omega) (by decide))
  have hrv : [104, 101, 105, 100].reverse = [100, 105, 101, 104] := rfl
  rw [hrv] at t1; unfold step3
  cases hp : [100, 105, 101, 104].isPrefixOf r with
  | false =>
    rw [hp] at t1; exact ⟨x4, o4, B_skip t1⟩
  | true =>
    rw [hp] at t1; obtain ⟨s, hs⟩ := pre_ex hp
    have hd : r.drop 4 = s := by rw [hs]; rfl
    have hd6 : r.drop 6 = s.drop 2 := by rw [hs]; rfl
    have hlen : r.length = s.length + 4 := by rw [hs]; simp
    rw [hd, hd6, if_pos rfl]; refine ⟨some (as (tx s.reverse)), rfl, ?_⟩
    have hcut : evE tabs (cl (n + 4)) (.sliceTo (.var 0) (.bin .sub (.len (.var 0)) (.int 4))) ⟨W r p q x3 x4 x5 none none, fl⟩ = some (as (tx s.reverse), fl) := E_cutn (e := [100, 105, 101, 104]) (by rw [hs]; rfl) rfl (by rw [← hs]; omega)
    have a4 : evS tabs (cl (n + 4)) 1000 (.assign 4 (.sliceTo (.var 0) (.bin .sub (.len (.var 0)) (.int 4)))) ⟨W r p q x3 x4 x5 none none, fl⟩ = some (⟨W r p q x3 (some (as (tx s.reverse))) x5 none none, fl⟩, .next) := S_assign hcut rfl (by simp [okSet_eq, o4])
    have t2 : evT tabs (cl (n + 4)) (.and (.cons (.cmp .ge (.len (.var 4)) (.var 2)) (.cons (.not (.endswith (.var 4) (.str (tx [99])))) .nil))) ⟨W r p q x3 (some (as (tx s.reverse))) x5 none none, fl⟩ = some (decide (q ≤ s.length) && s.head? != some 99, fl) := by
      have := T_of (E_and2 (E_ge (T := tabs) (Γ := cl (n + 4)) (σ := ⟨W r p q x3 (some (as (tx s.reverse))) x5 none none, fl⟩) (i := 4) (j := 2) (s := s) (p := q) rfl rfl (by omega)) (fun _ => E_not (E_endr (i := 4) (s := s) (y := [99]) rfl (by omega) (by decide))))
      rw [show [99].reverse = [99] from rfl, pre1] at this; exact this
    cases hh : decide (q ≤ s.length) && s.head? != some 99 with
    | false =>
      rw [hh] at t2; rw [if_neg (by decide), B_next ((S_true t1).trans ((B_next a4).trans ((B_skip t2).trans B_nil)))]
    | true =>
      rw [hh] at t2; rw [if_pos rfl]
      have te := E_endr (T := tabs) (Γ := cl (n + 4)) (σ := ⟨W r p q x3 (some (as (tx s.reverse))) x5 none none, fl⟩) (i := 4) (s := s) (y := [101, 110]) rfl (by omega) (by decide)
      rw [show [101, 110].reverse = [110, 101] from rfl] at te
      have hx : evE tabs (cl (n + 4)) (.ite (.endswith (.var 4) (.str (tx [101, 110]))) (.callG 33 (.cons (.var 4) (.cons (.str (tx [101, 110])) (.cons (.var 1) .nil)))) (.var 4)) ⟨W r p q x3 (some (as (tx s.reverse))) x5 none none, fl⟩ = some (as (tx (if [110, 101].isPrefixOf s then lessEn p s (s.drop 2) else s).reverse), fl) := by
        rw [E_ite te]
        cases hp2 : [110, 101].isPrefixOf s with
        | false => simp only [Bool.false_eq_true, if_false]; exact E_var rfl
        | true =>
          obtain ⟨t, ht⟩ := pre_ex hp2
          have hd2 : s.drop 2 = t := by rw [ht]; rfl
          have htl : s.length = t.length + 2 := by rw [ht]; simp
          rw [if_pos rfl, if_pos rfl, hd2]
          have hle := less_en_spec (n := n + 1) (fl := fl) (e := [110, 101]) (s := t) (p := p) (y := [101, 110]) rfl (by rw [← ht]; omega) (by rintro h1 rfl; simp at h1 htl; omega)
          rw [← ht] at hle; exact E_callG (A3 (E_var rfl) E_str (E_var rfl)) rfl (own_W o3 rfl o5 rfl rfl _) hle
      rw [B_next ((S_true t1).trans ((B_next a4).trans ((B_one.trans ((S_true t2).trans ((B_next (S_assign hx rfl rfl)).trans B_nil))))))]; rfl
abbrev ends4 : List (List Nat) := [[101, 110, 100], [105, 110, 103], [105, 103], [108, 105, 106, 107], [98, 97, 97, 114], [98, 97, 114]]
theorem end4_key (r : List Nat) : ∃ e s z, r = e ++ s ∧ end4 r = (e.length, z) ∧ lend ends4 r.reverse = e.reverse ∧
    ((e = [100, 110, 101] ∧ z = 1) ∨ (e = [103, 110, 105] ∧ z = 1) ∨ (e = [103, 105] ∧ z = 2) ∨ (e = [107, 106, 105, 108] ∧ z = 3) ∨ (e = [114, 97, 97, 98] ∧ z = 4) ∨ (e = [114, 97, 98] ∧ z = 5) ∨ (e = [] ∧ z = 0)) := by
  unfold lend end4; simp only [List.foldl_cons, List.foldl_nil, pick, sfx, List.reverse_cons, List.reverse_nil, List.nil_append, List.cons_append]
  have cons_ne : ∀ {a x : Nat} {e' t : List Nat}, a ≠ x → (a :: e').isPrefixOf (x :: t) = false := by
    intro a x e' t h
    simp [List.isPrefixOf, h]
  cases hA : [100, 110, 101].isPrefixOf r
  · cases hB : [103, 110, 105].isPrefixOf r
    · cases hC : [103, 105].isPrefixOf r
      · cases hD : [107, 106, 105, 108].isPrefixOf r
        · cases hE : [114, 97, 97, 98].isPrefixOf r
          · cases hF : [114, 97, 98].isPrefixOf r
            · exact ⟨[], r, 0, rfl, rfl, rfl, by simp⟩
            · obtain ⟨s, rfl⟩ := pre_ex hF; exact ⟨[114, 97, 98], s, 5, rfl, rfl, rfl, by simp⟩
          · obtain ⟨s, rfl⟩ := pre_ex hE; exact ⟨[114, 97, 97, 98], s, 4, rfl, rfl, by cases [114, 97, 98].isPrefixOf ([114, 97, 97, 98] ++ s) <;> rfl, by simp⟩
        · obtain ⟨s, rfl⟩ := pre_ex hD; exact ⟨[107, 106, 105, 108], s, 3, rfl, rfl, by cases [114, 97, 98].isPrefixOf ([107, 106, 105, 108] ++ s) <;> cases [114, 97, 97, 98].isPrefixOf ([107, 106, 105, 108] ++ s) <;> rfl, by simp⟩
      · obtain ⟨s, rfl⟩ := pre_ex hC
        have c1 : [107, 106, 105, 108].isPrefixOf ([103, 105] ++ s) = false := cons_ne (by decide)
        have c2 : [114, 97, 97, 98].isPrefixOf ([103, 105] ++ s) = false := cons_ne (by decide)
        have c3 : [114, 97, 98].isPrefixOf ([103, 105] ++ s) = false := cons_ne (by decide)
        exact ⟨[103, 105], s, 2, rfl, rfl, by rw [c1, c2, c3]; rfl, by simp⟩
    · obtain ⟨s, rfl⟩ := pre_ex hB
      have c1 : [107, 106, 105, 108].isPrefixOf ([103, 110, 105] ++ s) = false := cons_ne (by decide)
      have c2 : [114, 97, 97, 98].isPrefixOf ([103, 110, 105] ++ s) = false := cons_ne (by decide)
      have c3 : [114, 97, 98].isPrefixOf ([103, 110, 105] ++ s) = false := cons_ne (by decide)
      exact ⟨[103, 110, 105], s, 1, rfl, rfl, by rw [c1, c2, c3]; cases [103, 105].isPrefixOf ([103, 110, 105] ++ s) <;> rfl, by simp⟩
  · obtain ⟨s, rfl⟩ := pre_ex hA
    have c1 : [107, 106, 105, 108].isPrefixOf ([100, 110, 101] ++ s) = false := cons_ne (by decide)
    have c2 : [114, 97, 97, 98].isPrefixOf ([100, 110, 101] ++ s) = false := cons_ne (by decide)
    have c3 : [114, 97, 98].isPrefixOf ([100, 110, 101] ++ s) = false := cons_ne (by decide)
    exact ⟨[100, 110, 101], s, 1, rfl, rfl, by rw [c1, c2, c3]; cases [103, 105].isPrefixOf ([100, 110, 101] ++ s) <;> cases [103, 110, 105].isPrefixOf ([100, 110, 101] ++ s) <;> rfl, by simp⟩
abbrev sD3 : CS := .assign 3 (.callG 30 (.cons (.var 0) (.cons (.list (strsCA ends4)) .nil)))
abbrev sDi : CB := (.cons (.assign 6 (.sliceTo (.var 4) (.bin .sub (.len (.var 4)) (.int 2)))) (.cons (.ite (.and (.cons (.endswith (.var 4) (.str (tx [105, 103]))) (.cons (.cmp .ge (.len (.var 6)) (.var 2)) (.cons (.not (.endswith (.var 6) (.str (tx [101])))) .nil)))) (.cons (.assign 0 (.var 6)) .nil) (.cons (.assign 0 (.callG 32 (.cons (.var 4) .nil))) .nil)) .nil))
abbrev sDj : CS := .ite (.cmp .isin (.var 3) (.list (strsCA [[101, 110, 100], [105, 110, 103]]))) sDi (.cons (.ite (.cmp .eq (.var 3) (.str (tx [105, 103]))) (.cons (.assign 0 (.ite (.endswith (.var 4) (.str (tx [101]))) (.var 0) (.var 4))) .nil) (.cons (.ite (.cmp .eq (.var 3) (.str (tx [108, 105, 106, 107]))) (.cons (.assign 0 (.callG 34 (.cons (.var 4) (.cons (.var 1) .nil)))) .nil) (.cons (.ite (.or (.cons (.cmp .eq (.var 3) (.str (tx [98, 97, 97, 114]))) (.cons (.var 5) .nil))) (.cons (.assign 0 (.var 4)) .nil) .nil) .nil)) .nil)) .nil)
abbrev sD5 : CS := .ite (.and (.cons (.cmp .ne (.var 3) (.str (tx []))) (.cons (.cmp .ge (.len (.var 4)) (.var 2)) .nil))) (.cons sDj .nil) .nil
theorem lawD {found : Bool} (hr : r.length < 900) (hP : 3 ≤ p ∨ r.length ≤ p) (hQ : 3 ≤ q ∨ r.length ≤ q) (o3 : okv x3 = true) (o4 : okv x4 = true) (rest : CB) : ∃ y3 y4 y6, okv y3 = true ∧ okv y4 = true ∧ okv y6 = true ∧
    evB tabs (cl (n + 4)) 1000 (.cons sD3 (.cons sA4 (.cons sD5 rest))) ⟨W r p q x3 x4 (some (ab found)) none none, fl⟩ = evB tabs (cl (n + 4)) 1000 rest ⟨W (step4 p q found r) p q y3 y4 (some (ab found)) y6 none, fl⟩ := by
  obtain ⟨e, s, z, hes, h3, hk, hz⟩ := end4_key r
  have hlen := congrArg List.length hes
  rw [List.length_append] at hlen
  have he := ending_spec (n := n + 3) (fl := fl) (w := r.reverse) (es := ends4) (by rw [List.length_reverse]; omega) (by decide) (by decide)
  rw [hk] at he
  have hc : evE tabs (cl (n + 4)) (.callG 30 (.cons (.var 0) (.cons (.list (strsCA ends4)) .nil))) ⟨W r p q x3 x4 (some (ab found)) none none, fl⟩ = _ := E_callG (A2 (E_var rfl) (E_strs (by decide))) rfl (own_W o3 o4 rfl rfl rfl _) he
  have c1 : ∀ rest : CB, evB tabs (cl (n + 4)) 1000 (.cons sD3 rest) ⟨W r p q x3 x4 (some (ab found)) none none, fl⟩ = evB tabs (cl (n + 4)) 1000 rest ⟨W r p q (some (as (tx e.reverse))) x4 (some (ab found)) none none, fl⟩ := fun rest => B_next (S_assign hc rfl (by simp [okSet_eq, o3]))
  have h4 : evE tabs (cl (n + 4)) (.sliceTo (.var 0) (.bin .sub (.len (.var 0)) (.len (.var 3)))) ⟨W r p q (some (as (tx e.reverse))) x4 (some (ab found)) none none, fl⟩ = some (as (tx s.reverse), fl) := E_cut (e := e) (by rw [← hes]; rfl) rfl (by simp) (by rw [← hes]; omega)
  have c2 : ∀ rest : CB, evB tabs (cl (n + 4)) 1000 (.cons sA4 rest) ⟨W r p q (some (as (tx e.reverse))) x4 (some (ab found)) none none, fl⟩ = evB tabs (cl (n + 4)) 1000 rest ⟨W r p q (some (as (tx e.reverse))) (some (as (tx s.reverse))) (some (ab found)) none none, fl⟩ := fun rest => B_next (S_assign h4 rfl (by simp [okSet_eq, o4]))
  have hd : r.drop e.length = s := by
    conv => lhs; rw [hes]
    rw [List.drop_left]
  have hst : step4 p q found r = (if z = 0 then r else if ¬ q ≤ s.length then r else if z = 1 then step4a q s else if z = 2 then (if s.head? = some 101 then r else s) else if z = 3 then (lessE p s).getD s else if z = 4 then s else if found then s else r) := by
    unfold step4; rw [h3]; simp only [hd]
  rw [hst]; clear hst
  have t5 : evT tabs (cl (n + 4)) (.and (.cons (.cmp .ne (.var 3) (.str (tx []))) (.cons (.cmp .ge (.len (.var 4)) (.var 2)) .nil))) ⟨W r p q (some (as (tx e.reverse))) (some (as (tx s.reverse))) (some (ab found)) none none, fl⟩ = some ((e.reverse != []) && decide (q ≤ s.length), fl) := T_of (E_and2 (E_nes rfl) (fun _ => E_ge rfl rfl (by omega)))
  have out : ∀ (r' : List Nat) (y6 : Option AV), okv y6 = true → evS tabs (cl (n + 4)) 1000 sD5 ⟨W r p q (some (as (tx e.reverse))) (some (as (tx s.reverse))) (some (ab found)) none none, fl⟩ = some (⟨W r' p q (some (as (tx e.reverse))) (some (as (tx s.reverse))) (some (ab found)) y6 none, fl⟩, .next) →
      ∃ y3 y4 y6, okv y3 = true ∧ okv y4 = true ∧ okv y6 = true ∧ evB tabs (cl (n + 4)) 1000 (.cons sD3 (.cons sA4 (.cons sD5 rest))) ⟨W r p q x3 x4 (some (ab found)) none none, fl⟩ = evB tabs (cl (n + 4)) 1000 rest ⟨W r' p q y3 y4 (some (ab found)) y6 none, fl⟩ :=
    fun r' y6 o6 h => ⟨_, _, _, rfl, rfl, o6, (c1 _).trans ((c2 _).trans (B_next h))⟩
  by_cases h0 : z = 0
  · rw [if_pos h0]
    have he0 : e = [] := by
      rcases hz with h | h | h | h | h | h | h
      · omega
      · omega
      · omega
      · omega
      · omega
      · omega
      · exact h.1
    rw [show (e.reverse != []) = false by rw [he0]; rfl] at t5; exact out r none rfl ((S_false t5).trans B_nil)
  have hne : 0 < e.length := by
    rcases hz with h | h | h | h | h | h | h <;> first | (rw [h.1]; decide) | (exact absurd h.2 h0)
  have he1 : (e.reverse != []) = true := by
    rw [bne_iff_ne]
    intro q
    have := congrArg List.length q
    simp at this; rw [this] at hne; simp at hne
  rw [he1, Bool.true_and] at t5; rw [if_neg h0]
  by_cases hq : q ≤ s.length
  · rw [if_neg (by simpa using hq)]
    rw [decide_eq_true hq] at t5
    have t5' : ∀ {o}, evS tabs (cl (n + 4)) 1000 sDj ⟨W r p q (some (as (tx e.reverse))) (some (as (tx s.reverse))) (some (ab found)) none none, fl⟩ = o → evS tabs (cl (n + 4)) 1000 sD5 ⟨W r p q (some (as (tx e.reverse))) (some (as (tx s.reverse))) (some (ab found)) none none, fl⟩ = o := by
      intro o h
      rw [S_true t5, B_one]; exact h
    have tin := T_of (E_isin (T := tabs) (Γ := cl (n + 4)) (σ := ⟨W r p q (some (as (tx e.reverse))) (some (as (tx s.reverse))) (some (ab found)) none none, fl⟩) (i := 3) (k := e.reverse) (es := [[101, 110, 100], [105, 110, 103]]) rfl (by decide))
    have one : (([[101, 110, 100], [105, 110, 103]] : List (List Nat)).any (· == e.reverse)) = true → ∃ y3 y4 y6, okv y3 = true ∧ okv y4 = true ∧ okv y6 = true ∧ evB tabs (cl (n + 4)) 1000 (.cons sD3 (.cons sA4 (.cons sD5 rest))) ⟨W r p q x3 x4 (some (ab found)) none none, fl⟩ = evB tabs (cl (n + 4)) 1000 rest ⟨W (step4a q s) p q y3 y4 (some (ab found)) y6 none, fl⟩ := by
      intro hin
      rw [hin] at tin
      have hs2 : 2 ≤ s.length := by omega
      refine out (step4a q s) (some (as (tx (s.drop 2).reverse))) rfl (t5' ?_); rw [S_true tin]
      have hes2 : s = s.take 2 ++ s.drop 2 := (List.take_append_drop 2 s).symm
      have hcut : evE tabs (cl (n + 4)) (.sliceTo (.var 4) (.bin .sub (.len (.var 4)) (.int 2))) ⟨W r p q (some (as (tx e.reverse))) (some (as (tx s.reverse))) (some (ab found)) none none, fl⟩ = some (as (tx (s.drop 2).reverse), fl) := E_cutn (e := s.take 2) (by rw [← hes2]; rfl) (by simp; omega) (by rw [← hes2]; omega)
      rw [B_next (σ' := ⟨W r p q (some (as (tx e.reverse))) (some (as (tx s.reverse))) (some (ab found)) (some (as (tx (s.drop 2).reverse))) none, fl⟩) (S_assign hcut rfl rfl)]
      have hdl : (s.drop 2).length < 1000 := by simp only [List.length_drop]; omega
      have tig : evT tabs (cl (n + 4)) (.and (.cons (.endswith (.var 4) (.str (tx [105, 103]))) (.cons (.cmp .ge (.len (.var 6)) (.var 2)) (.cons (.not (.endswith (.var 6) (.str (tx [101])))) .nil)))) ⟨W r p q (some (as (tx e.reverse))) (some (as (tx s.reverse))) (some (ab found)) (some (as (tx (s.drop 2).reverse))) none, fl⟩ = some (igOk q s, fl) := by
        have := T_of (E_and3 (E_endr (T := tabs) (Γ := cl (n + 4)) (σ := ⟨W r p q (some (as (tx e.reverse))) (some (as (tx s.reverse))) (some (ab found)) (some (as (tx (s.drop 2).reverse))) none, fl⟩) (i := 4) (s := s) (y := [105, 103]) rfl (by omega) (by decide)) (fun _ => E_ge (i := 6) (j := 2) (s := s.drop 2) (p := q) rfl rfl hdl) (fun _ _ => E_not (E_endr (i := 6) (s := s.drop 2) (y := [101]) rfl hdl (by decide))))
        rw [show [101].reverse = [101] from rfl, show [105, 103].reverse = [103, 105] from rfl, pre1] at this; exact this
      unfold step4a
      cases hi : igOk q s with
      | true =>
        rw [hi] at tig; rw [B_one, S_true tig, if_pos rfl]; exact (B_next (S_assign (E_var rfl) rfl rfl)).trans B_nil
      | false =>
        rw [hi] at tig; rw [B_one, S_false tig, if_neg (by decide)]
        have hsg := single_spec (n := n + 2) (fl := fl) (r := s) (by omega)
        have hcs : evE tabs (cl (n + 4)) (.callG 32 (.cons (.var 4) .nil)) ⟨W r p q (some (as (tx e.reverse))) (some (as (tx s.reverse))) (some (ab found)) (some (as (tx (s.drop 2).reverse))) none, fl⟩ = _ := E_callG (A1 (E_var rfl)) rfl rfl hsg
        exact (B_next (S_assign hcs rfl rfl)).trans B_nil
    have q1 := T_of (E_eqs (T := tabs) (Γ := cl (n + 4)) (σ := ⟨W r p q (some (as (tx e.reverse))) (some (as (tx s.reverse))) (some (ab found)) none none, fl⟩) (i := 3) (k := e.reverse) (y := [105, 103]) rfl)
    have q2 := T_of (E_eqs (T := tabs) (Γ := cl (n + 4)) (σ := ⟨W r p q (some (as (tx e.reverse))) (some (as (tx s.reverse))) (some (ab found)) none none, fl⟩) (i := 3) (k := e.reverse) (y := [108, 105, 106, 107]) rfl)
    have q3 : evT tabs (cl (n + 4)) (.or (.cons (.cmp .eq (.var 3) (.str (tx [98, 97, 97, 114]))) (.cons (.var 5) .nil))) ⟨W r p q (some (as (tx e.reverse))) (some (as (tx s.reverse))) (some (ab found)) none none, fl⟩ = some ((e.reverse == [98, 97, 97, 114]) || found, fl) := T_of (E_or2 (E_eqs rfl) (fun _ => E_var rfl))
    rcases hz with ⟨h1, h2⟩ | ⟨h1, h2⟩ | ⟨h1, h2⟩ | ⟨h1, h2⟩ | ⟨h1, h2⟩ | ⟨h1, h2⟩ | ⟨h1, h2⟩
    · rw [if_pos h2]
      exact one (by rw [h1]; decide)
    · rw [if_pos h2]
      exact one (by rw [h1]; decide)
    · subst h2
      rw [if_neg (by decide), if_pos rfl]; rw [show (([[101, 110, 100], [105, 110, 103]] : List (List Nat)).any (· == e.reverse)) = false by rw [h1]; decide] at tin; rw [show (e.reverse == [105, 103]) = true by rw [h1]; decide] at q1
      have te := E_endr (T := tabs) (Γ := cl (n + 4)) (σ := ⟨W r p q (some (as (tx e.reverse))) (some (as (tx s.reverse))) (some (ab found)) none none, fl⟩) (i := 4) (s := s) (y := [101]) rfl (by omega) (by decide)
      rw [show [101].reverse = [101] from rfl, pre1] at te
      have hx : evE tabs (cl (n + 4)) (.ite (.endswith (.var 4) (.str (tx [101]))) (.var 0) (.var 4)) ⟨W r p q (some (as (tx e.reverse))) (some (as (tx s.reverse))) (some (ab found)) none none, fl⟩ = some (as (tx (if s.head? = some 101 then r else s).reverse), fl) := by
        rw [E_ite te]
        by_cases hh : s.head? = some 101
        · rw [if_pos (by simp [hh]), if_pos hh]; exact E_var rfl
        · rw [if_neg (by simp [hh]), if_neg hh]; exact E_var rfl
      refine out _ none rfl (t5' ?_); rw [S_false tin, B_one, S_true q1]; exact (B_next (S_assign hx rfl rfl)).trans B_nil
    · subst h2
      rw [if_neg (by decide), if_neg (by decide), if_pos rfl]; rw [show (([[101, 110, 100], [105, 110, 103]] : List (List Nat)).any (· == e.reverse)) = false by rw [h1]; decide] at tin; rw [show (e.reverse == [105, 103]) = false by rw [h1]; decide] at q1; rw [show (e.reverse == [108, 105, 106, 107]) = true by rw [h1]; decide] at q2
      have hle := less_e_spec (n := n + 1) (fl := fl) (r := s) (p := p) (by omega) (by rintro x s' rfl h1 rfl; simp at h1 hlen hP; omega)
      have hcl : evE tabs (cl (n + 4)) (.callG 34 (.cons (.var 4) (.cons (.var 1) .nil))) ⟨W r p q (some (as (tx e.reverse))) (some (as (tx s.reverse))) (some (ab found)) none none, fl⟩ = _ := E_callG (A2 (E_var rfl) (E_var rfl)) rfl rfl hle
      refine out _ none rfl (t5' ?_); rw [S_false tin, B_one, S_false q1, B_one, S_true q2]; exact (B_next (S_assign hcl rfl rfl)).trans B_nil
    · subst h2
      rw [if_neg (by decide), if_neg (by decide), if_neg (by decide), if_pos rfl]; rw [show (([[101, 110, 100], [105, 110, 103]] : List (List Nat)).any (· == e.reverse)) = false by rw [h1]; decide] at tin; rw [show (e.reverse == [105, 103]) = false by rw [h1]; decide] at q1; rw [show (e.reverse == [108, 105, 106, 107]) = false by rw [h1]; decide] at q2; rw [show (e.reverse == [98, 97, 97, 114]) = true by rw [h1]; decide] at q3; refine out _ none rfl (t5' ?_); rw [S_false tin, B_one, S_false q1, B_one, S_false q2, B_one, S_true q3]; exact (B_next (S_assign (E_var rfl) rfl rfl)).trans B_nil
    · subst h2
      rw [if_neg (by decide), if_neg (by decide), if_neg (by decide), if_neg (by decide)]; rw [show (([[101, 110, 100], [105, 110, 103]] : List (List Nat)).any (· == e.reverse)) = false by rw [h1]; decide] at tin; rw [show (e.reverse == [105, 103]) = false by rw [h1]; decide] at q1; rw [show (e.reverse == [108, 105, 106, 107]) = false by rw [h1]; decide] at q2; rw [show (e.reverse == [98, 97, 97, 114]) = false by rw [h1]; decide] at q3; refine out _ none rfl (t5' ?_); rw [S_false tin, B_one, S_false q1, B_one, S_false q2, B_one]
      cases found with
      | true =>
        rw [S_true q3]; exact (B_next (S_assign (E_var rfl) rfl rfl)).trans B_nil
      | false =>
        rw [S_false q3]; exact B_nil
    · exact absurd h2 h0
  · rw [if_pos hq]
    rw [decide_eq_false hq] at t5; exact out r none rfl ((S_false t5).trans B_nil)
end Mine
namespace Mine
variable {n : Nat} {Γ : Call} {N : Nat} {fl : FL} {r e s l : List Nat} {p q : Nat} {x3 x4 x5 x6 x7 : Option AV}
theorem E_slice {T : Tabs} {σ : AS} {a b c : CE} {x v : AV} {lo hi : Int} (h1 : evE T Γ a σ = some (x, σ.fl)) (h2 : evE T Γ b σ = some (ai lo, σ.fl)) (h3 : evE T Γ c σ = some (ai hi, σ.fl)) (h4 : sliceV x (some lo) (some hi) = some v) : evE T Γ (.slice a b c) σ = some (v, σ.fl) := by
  rw [evE]; simp [h1, h2, h3, h4, ai]
abbrev sE : CS := .ite (.and (.cons (.cmp .ge (.var 7) (.int 4)) (.cons (.cmp .isin (.slice (.var 0) (.bin .sub (.var 7) (.int 3)) (.bin .sub (.var 7) (.int 1))) (.list (strsCA [[97, 97], [101, 101], [111, 111], [117, 117]]))) .nil))) (.cons (.ite (.and (.cons (.cmp .notin (.idx (.var 0) (.bin .sub (.var 7) (.int 4))) (.glob (.ofString "_law_vowels"))) (.cons (.cmp .notin (.idx (.var 0) (.bin .sub (.var 7) (.int 1))) (.bin .add (.glob (.ofString "_law_vowels")) (.list (.cons (.str ⟨#[73]⟩) .nil)))) .nil))) (.cons (.assign 0 (.bin .add (.sliceTo (.var 0) (.bin .sub (.var 7) (.int 2))) (.idx (.var 0) (.bin .sub (.var 7) (.int 1))))) .nil) .nil) .nil) .nil
theorem dblV_in (a b : Nat) (t : List Nat) : dblV (a :: b :: t) = (([[97, 97], [101, 101], [111, 111], [117, 117]] : List (List Nat)).any (· == [b, a])) := by
  unfold dblV end5
  have e : ∀ y : Nat, [y, y].isPrefixOf (a :: b :: t) = ([y, y] == [b, a]) := by
    intro y
    have : ([y, y] == [b, a]) = ((y == b) && (y == a)) := by simp [List.cons_beq_cons]
    rw [this]; simp only [List.isPrefixOf, Bool.and_true]; exact Bool.and_comm _ _
  simp only [e, List.any_cons, List.any_nil]
  cases ([97, 97] == [b, a]) <;> cases ([101, 101] == [b, a]) <;> cases ([111, 111] == [b, a]) <;> cases ([117, 117] == [b, a]) <;> rfl
theorem lawE (hr : r.length < 900) (rest : CB) : evB tabs Γ 1000 (.cons (.assign 7 (.len (.var 0))) (.cons sE rest)) ⟨W r p q x3 x4 x5 x6 none, fl⟩ = evB tabs Γ 1000 rest ⟨W (step5 r) p q x3 x4 x5 x6 (some (ai r.length)), fl⟩ := by
  rw [B_next (σ' := ⟨W r p q x3 x4 x5 x6 (some (ai r.length)), fl⟩) (S_assign (E_len (E_var rfl) (len_R (by omega))) rfl rfl)]
  have g4 : evE tabs Γ (.cmp .ge (.var 7) (.int 4)) ⟨W r p q x3 x4 x5 x6 (some (ai r.length)), fl⟩ = some (ab (decide (4 ≤ r.length)), fl) := by
    refine E_cmp (E_var rfl) E_int ?_; show some (decide ((r.length : Int) ≥ 4)) = _; rw [decide_eq_decide.mpr (show (r.length : Int) ≥ 4 ↔ 4 ≤ r.length by omega)]
  by_cases h4 : 4 ≤ r.length
  · obtain ⟨x, a, b, c, t, rfl⟩ : ∃ x a b c t, r = x :: a :: b :: c :: t := by
      rcases r with _ | ⟨x, _ | ⟨a, _ | ⟨b, _ | ⟨c, t⟩⟩⟩⟩ <;> first | (simp at h4; done) | exact ⟨_, _, _, _, _, rfl⟩
    have hrl : ((x :: a :: b :: c :: t).length : Int) = (t.length : Int) + 4 := by simp only [List.length_cons]; omega
    have hrl' : t.length < 896 := by simp only [List.length_cons] at hr; omega
    have sub : ∀ (m : Int) (v : Nat), (t.length : Int) + 4 - m = v → evE tabs Γ (.bin .sub (.var 7) (.int m)) ⟨W (x :: a :: b :: c :: t) p q x3 x4 x5 x6 (some (ai (x :: a :: b :: c :: t).length)), fl⟩ = some (ai v, fl) := by
      intro m v h
      exact E_bin (E_var rfl) E_int (sub_ai (by rw [hrl]; exact h))
    have hsl : sliceV (as (tx (x :: a :: b :: c :: t).reverse)) (some ((c :: t).length : Int)) (some ((a :: b :: c :: t).length : Int)) = some (as (tx [b, a])) := by
      have := slice_tx (l := (x :: a :: b :: c :: t).reverse) (lo := (c :: t).length) (hi := (a :: b :: c :: t).length) (by rw [List.length_reverse]; exact sm (by simp; omega)) (by simp; omega) (by simp; omega)
      have k1 : ((x :: a :: b :: c :: t).reverse).take (a :: b :: c :: t).length = (a :: b :: c :: t).reverse := take_es [x] (a :: b :: c :: t)
      have k2 : ((a :: b :: c :: t).reverse).drop (c :: t).length = [a, b].reverse := drop_es [a, b] (c :: t)
      rw [k1, k2] at this; exact this
    have hin : evE tabs Γ (.cmp .isin (.slice (.var 0) (.bin .sub (.var 7) (.int 3)) (.bin .sub (.var 7) (.int 1))) (.list (strsCA [[97, 97], [101, 101], [111, 111], [117, 117]]))) ⟨W (x :: a :: b :: c :: t) p q x3 x4 x5 x6 (some (ai (x :: a :: b :: c :: t).length)), fl⟩ = some (ab (dblV (a :: b :: c :: t)), fl) := by
      rw [dblV_in]; exact E_cmp (E_slice (E_var rfl) (sub 3 (c :: t).length (by simp only [List.length_cons]; omega)) (sub 1 (a :: b :: c :: t).length (by simp only [List.length_cons]; omega)) hsl) (E_strs (by decide)) (show cmpV .isin (as (tx [b, a])) (strsL [[97, 97], [101, 101], [111, 111], [117, 117]]) = _ from inV_strs [[97, 97], [101, 101], [111, 111], [117, 117]] [b, a])
    have t1 : evT tabs Γ (.and (.cons (.cmp .ge (.var 7) (.int 4)) (.cons (.cmp .isin (.slice (.var 0) (.bin .sub (.var 7) (.int 3)) (.bin .sub (.var 7) (.int 1))) (.list (strsCA [[97, 97], [101, 101], [111, 111], [117, 117]]))) .nil))) ⟨W (x :: a :: b :: c :: t) p q x3 x4 x5 x6 (some (ai (x :: a :: b :: c :: t).length)), fl⟩ = some (dblV (a :: b :: c :: t), fl) := by
      have := T_of (E_and2 g4 (fun _ => hin))
      rw [decide_eq_true h4, Bool.true_and] at this; exact this
    have i4 := idx_R (e := [x, a, b]) (x := c) (s := t) (by simp; omega)
    have i1 := idx_R (e := []) (x := x) (s := a :: b :: c :: t) (by simp; omega)
    simp only [List.cons_append, List.nil_append] at i4 i1
    have ex1 : evE tabs Γ (.idx (.var 0) (.bin .sub (.var 7) (.int 1))) ⟨W (x :: a :: b :: c :: t) p q x3 x4 x5 x6 (some (ai (x :: a :: b :: c :: t).length)), fl⟩ = some (as (chr1 x), fl) := E_idx (E_var rfl) (sub 1 (a :: b :: c :: t).length (by simp only [List.length_cons]; omega)) i1
    have t2 : evT tabs Γ (.and (.cons (.cmp .notin (.idx (.var 0) (.bin .sub (.var 7) (.int 4))) (.glob (.ofString "_law_vowels"))) (.cons (.cmp .notin (.idx (.var 0) (.bin .sub (.var 7) (.int 1))) (.bin .add (.glob (.ofString "_law_vowels")) (.list (.cons (.str ⟨#[73]⟩) .nil)))) .nil))) ⟨W (x :: a :: b :: c :: t) p q x3 x4 x5 x6 (some (ai (x :: a :: b :: c :: t).length)), fl⟩ = some (!isV c && !isVI x, fl) := by
      refine T_of (E_and2 (E_cmp (E_idx (E_var rfl) (sub 4 t.length (by omega)) i4) glob_v ?_) (fun _ => E_cmp ex1 E_vI ?_))
      · show (inV (chr1 c) (setL vow)).map (!·) = _
        rw [inV_set]; rfl
      · show (inV (chr1 x) (setL (vow ++ [73]))).map (!·) = _
        rw [inV_set, vI_eq]; rfl
    have hadd : evE tabs Γ (.bin .add (.sliceTo (.var 0) (.bin .sub (.var 7) (.int 2))) (.idx (.var 0) (.bin .sub (.var 7) (.int 1)))) ⟨W (x :: a :: b :: c :: t) p q x3 x4 x5 x6 (some (ai (x :: a :: b :: c :: t).length)), fl⟩ = some (as (tx (x :: b :: c :: t).reverse), fl) := by
      have hc := cut_R (e := [x, a]) (s := b :: c :: t) (by simp; omega)
      simp only [List.cons_append, List.nil_append] at hc
      have ha := add_R (s := b :: c :: t) (y := [x]) (by simp; omega) (by simp)
      exact E_bin (E_sliceTo (E_var rfl) (sub 2 (b :: c :: t).length (by simp only [List.length_cons]; omega)) hc) ex1 ha
    cases hdv : dblV (a :: b :: c :: t) with
    | false =>
      rw [hdv] at t1
      have : step5 (x :: a :: b :: c :: t) = x :: a :: b :: c :: t := by simp [step5, hdv]
      rw [this, B_skip t1]
    | true =>
      rw [hdv] at t1
      cases hcx : !isV c && !isVI x with
      | false =>
        rw [hcx] at t2
        have : step5 (x :: a :: b :: c :: t) = x :: a :: b :: c :: t := by
          have : (!isVI x && (true && shut (c :: t))) = false := by rw [Bool.true_and, Bool.and_comm]; exact hcx
          simp only [step5, hdv, List.drop_succ_cons, List.drop_zero, this]; rfl
        rw [this, B_next ((S_true t1).trans ((B_skip t2).trans B_nil))]
      | true =>
        rw [hcx] at t2
        have : step5 (x :: a :: b :: c :: t) = x :: b :: c :: t := by
          have : (!isVI x && (true && shut (c :: t))) = true := by rw [Bool.true_and, Bool.and_comm]; exact hcx
          simp only [step5, hdv, List.drop_succ_cons, List.drop_zero, this]; rfl
        rw [this, B_next ((S_true t1).trans (B_one.trans ((S_true t2).trans ((B_next (S_assign hadd rfl rfl)).trans B_nil))))]; rfl
  · have t1 : evT tabs Γ (.and (.cons (.cmp .ge (.var 7) (.int 4)) (.cons (.cmp .isin (.slice (.var 0) (.bin .sub (.var 7) (.int 3)) (.bin .sub (.var 7) (.int 1))) (.list (strsCA [[97, 97], [101, 101], [111, 111], [117, 117]]))) .nil))) ⟨W r p q x3 x4 x5 x6 (some (ai r.length)), fl⟩ = some (false && true, fl) := by
      rw [decide_eq_false h4] at g4; exact T_of (E_and2 (vb := true) g4 (fun h => by cases h))
    have : step5 r = r := by
      rcases r with _ | ⟨x, _ | ⟨a, _ | ⟨b, _ | ⟨c, t⟩⟩⟩⟩
      · rfl
      · rfl
      · have : dblV [a] = false := by simp [dblV, end5, List.isPrefixOf]
        simp [step5, this]
      · simp [step5, shut]
      · simp at h4
    rw [this, B_skip t1]
abbrev sF : CE := .join (.comp (.ite (.cmp .eq (.var 0) (.str ⟨#[73]⟩)) (.str ⟨#[105]⟩) (.ite (.cmp .eq (.var 0) (.str ⟨#[89]⟩)) (.str ⟨#[121]⟩) (.var 0))) (.var 0) [])
theorem join_list {d : List Nat} (h : d.length < 1000) : joinV (setL d) = some (as (tx d)) := by
  have := join_own h
  unfold joinV ownL at this; unfold joinV setL; exact this
theorem lawF (hl : l.length < 1000) {σ : AS} {loc : List (Option AV)} (h0 : loc[0]? = some (some (as (tx l)))) (ho : hasOwn ⟨loc, fl⟩ = false) : evE tabs Γ sF ⟨loc, fl⟩ = some (as (tx (l.map unmark)), fl) := by
  have i1 : iterV (as (tx l)) = some (l.map fun c => Atom.str (chr1 c)) := by
    unfold iterV as; simp [tx_len, sm hl]; simp [tx]
  have hf : ∀ x ∈ l, (fun (a : Atom) (fl : FL) => evE tabs Γ (.ite (.cmp .eq (.var 0) (.str ⟨#[73]⟩)) (.str ⟨#[105]⟩) (.ite (.cmp .eq (.var 0) (.str ⟨#[89]⟩)) (.str ⟨#[121]⟩) (.var 0))) ⟨[some (.at a)], fl⟩) (Atom.str (chr1 x)) fl = some (.at (Atom.str (chr1 (unmark x))), fl) := by
    intro x _
    show evE tabs Γ _ ⟨[some (as (chr1 x))], fl⟩ = some (as (chr1 (unmark x)), fl)
    have hv : evE tabs Γ (.var 0) ⟨[some (as (chr1 x))], fl⟩ = some (as (chr1 x), fl) := E_var rfl
    have e1 : evE tabs Γ (.cmp .eq (.var 0) (.str ⟨#[73]⟩)) ⟨[some (as (chr1 x))], fl⟩ = some (ab (x == 73), fl) := E_cmp hv E_str (congrArg some (chr1_eq x 73))
    have e2 : evE tabs Γ (.cmp .eq (.var 0) (.str ⟨#[89]⟩)) ⟨[some (as (chr1 x))], fl⟩ = some (ab (x == 89), fl) := E_cmp hv E_str (congrArg some (chr1_eq x 89))
    rw [E_ite e1]; unfold unmark
    by_cases h1 : x = 73
    · subst h1; rw [if_pos (by decide), if_pos rfl]; exact E_str
    · rw [if_neg (by simpa using h1), if_neg h1, E_ite e2]
      by_cases h2 : x = 89
      · subst h2; rw [if_pos (by decide), if_pos rfl]; exact E_str
      · rw [if_neg (by simpa using h2), if_neg h2]; exact hv
  have v1 : evE tabs Γ (.var 0) ⟨loc, fl⟩ = some (as (tx l), fl) := E_var h0
  have hc : evE tabs Γ (.comp (.ite (.cmp .eq (.var 0) (.str ⟨#[73]⟩)) (.str ⟨#[105]⟩) (.ite (.cmp .eq (.var 0) (.str ⟨#[89]⟩)) (.str ⟨#[121]⟩) (.var 0))) (.var 0) []) ⟨loc, fl⟩ = some (setL (l.map unmark), fl) := by
    rw [evE, ho, v1]; simp only [i1, capsOf, List.map_nil, Bool.false_eq_true, if_false]; rw [evMap_eq l hf]; simp only [Option.map_some, setL, List.map_map]; rfl
  rw [evE, hc]; simp only [join_list (show (l.map unmark).length < 1000 by rw [List.length_map]; exact hl), Option.map_some]
theorem bl_ge : ∀ (t : List Nat) (v : Bool) (i y : Nat), y ∈ bl v i t → (if v then i + 1 else i + 2) ≤ y
  | [], _, _, _, h => by simp [bl] at h
  | x :: t, v, i, y, h => by
    rw [bl] at h
    split at h
    · rename_i hc
      obtain ⟨h1, h2⟩ := Bool.and_eq_true_iff.mp hc; subst h1; rw [if_pos rfl]
      rcases List.mem_cons.mp h with h | h
      · omega
      · have := bl_ge t false (i + 1) y h
        rw [if_neg (by decide)] at this; omega
    · have := bl_ge t (isV x) (i + 1) y h
      cases v <;> split at this <;> simp <;> omega
theorem bl_two : ∀ (t : List Nat) (v : Bool) (i a b : Nat) (R : List Nat), bl v i t = a :: b :: R → i + 3 ≤ b
  | [], _, _, _, _, _, h => by simp [bl] at h
  | x :: t, v, i, a, b, R, h => by
    rw [bl] at h
    split at h
    · have h2 := (List.cons.inj h).2
      have := bl_ge t false (i + 1) b (by rw [h2]; simp)
      rw [if_neg (by decide)] at this; omega
    · have := bl_two t (isV x) (i + 1) a b R h
      omega
theorem second_ok (l : List Nat) : 3 ≤ second l ∨ l.length ≤ second l := by
  unfold second
  split
  · rename_i a b R h
    have := bl_two l false 0 a b R h
    omega
  · exact .inr (Nat.le_refl _)
theorem first_ok (l : List Nat) : 3 ≤ first l ∨ l.length ≤ first l := by
  unfold first
  split
  · exact .inr (Nat.le_refl _)
  · exact .inl (Nat.le_max_left ..)
end Mine
namespace Mine
variable {n : Nat} {Γ : Call} {N : Nat} {fl : FL} {r e s l : List Nat} {p q : Nat}
theorem step1_id (h : r.length ≤ p) : step1 p r = r := by
  obtain ⟨e, s, hes, hl, hc⟩ := end3_split r
  have hd : r.drop (end3 r).1 = s := by
    rw [hl]
    conv => lhs; rw [hes]
    rw [List.drop_left]
  have hlen := congrArg List.length hes
  rw [List.length_append] at hlen; unfold step1; rw [hd]
  rcases hc with h0 | ⟨hne, hc⟩
  · rw [if_pos h0]
  · have : 0 < e.length := List.length_pos_iff.mpr hne
    have hp : ¬ p ≤ s.length := by omega
    simp [hp, lessEn]
theorem lessE_id (h : r.length ≤ p) : lessE p r = none := by
  unfold lessE
  split
  · rfl
  · rename_i x s
    have : ¬ p ≤ s.length := by simp only [List.length_cons] at h; omega
    simp [this]
theorem step3_id (h : r.length ≤ q) : step3 p q r = r := by
  unfold step3
  split
  · rename_i hp
    obtain ⟨s, rfl⟩ := pre_ex hp
    have : ¬ q ≤ s.length := by simp at h; omega
    simp [this]
  · rfl
theorem step4_id {v : Bool} (h : r.length ≤ q) : step4 p q v r = r := by
  obtain ⟨e, s, hes, hl, hc⟩ := end4_split r
  have hd : r.drop (end4 r).1 = s := by
    rw [hl]
    conv => lhs; rw [hes]
    rw [List.drop_left]
  have hlen := congrArg List.length hes
  rw [List.length_append] at hlen; unfold step4; rw [hd]
  rcases hc with h0 | ⟨hne, hc⟩
  · rw [if_pos h0]
  · have : 0 < e.length := List.length_pos_iff.mpr hne
    have hp : ¬ q ≤ s.length := by omega
    simp [hp]
theorem suffix_id (h : r.length ≤ p) (h2 : r.length ≤ q) : suffix p q r = step5 r := by
  unfold suffix step2; rw [step1_id h, lessE_id h]; simp only [Option.getD_none]; rw [step3_id h2, step4_id h2]
def stemL (l : List Nat) : List Nat := ((suffix (first (marked l)) (second (marked l)) (marked l).reverse).reverse).map unmark
theorem agree (l : List Nat) : stemW l = stemL l := by
  unfold stemW stemL; generalize marked l = m; unfold p1of p2of
  by_cases h : m.length < 3
  · rw [if_pos h, if_pos h]
    have h1 : m.length ≤ first m := by have := first_ok m; omega
    have h2 : m.length ≤ second m := by have := second_ok m; omega
    rw [suffix_id (by simp) (by simp), suffix_id (by simpa using h1) (by simpa using h2)]
  · rw [if_neg h, if_neg h]
theorem law_stem_spec (hl : l.length < 900) : cl (n + 5) 35 [as (tx l)] fl = some (as (tx (stemL l)), fl) := by
  rw [cl_at (F := ⟨1, _, c_law_stem⟩) rfl rfl]
  show retOf (evB tabs (cl (n + 4)) 1000 (.cons (.assign 0 (.callG 28 (.cons (.var 0) .nil))) (.cons (.assign2 1 2 (.callG 29 (.cons (.var 0) .nil))) (.cons sA3 (.cons sA4 (.cons sA5 (.cons (.assign 4 (.callG 34 (.cons (.var 0) (.cons (.var 1) .nil)))) (.cons (.assign 5 (.cmp .ne (.var 4) (.var 0))) (.cons (.assign 0 (.var 4)) (.cons sC (.cons sD3 (.cons sA4 (.cons sD5 (.cons (.assign 7 (.len (.var 0))) (.cons sE (.cons (.ret sF) .nil)))))))))))))))
    ⟨[some (as (tx l)), none, none, none, none, none, none, none], fl⟩) = _
  unfold stemL
  have h0 : evE tabs (cl (n + 4)) (.callG 28 (.cons (.var 0) .nil)) ⟨[some (as (tx l)), none, none, none, none, none, none, none], fl⟩ = some (as (tx (marked l)), fl) := E_callG (A1 (E_var rfl)) rfl rfl (marked_spec (n := n + 2) hl)
  have hm := marked_len l
  generalize marked l = m at h0 hm; rw [B_next (σ' := ⟨[some (as (tx m)), none, none, none, none, none, none, none], fl⟩) (S_assign h0 rfl rfl)]
  have h1 : evE tabs (cl (n + 4)) (.callG 29 (.cons (.var 0) .nil)) ⟨[some (as (tx m)), none, none, none, none, none, none, none], fl⟩ = some (.tup [.int (first m), .int (second m)], fl) := E_callG (A1 (E_var rfl)) rfl rfl (law_regions_spec (n := n + 3) (by omega))
  have hP := first_ok m
  have hQ := second_ok m
  generalize first m = p at h1 hP; generalize second m = q at h1 hQ
  have em : m = m.reverse.reverse := by rw [List.reverse_reverse]
  have lm : m.length = m.reverse.length := by rw [List.length_reverse]
  rw [B_next (σ' := ⟨W m.reverse p q none none none none none, fl⟩) (by rw [evS]; simp only [h1, W, List.reverse_reverse]; rfl)]; generalize m.reverse = r at lm
  have hr : r.length < 900 := by omega
  unfold suffix
  have l1 := step1_len p r
  obtain ⟨y3, y4, o3, o4, eA⟩ := lawA (n := n) (fl := fl) (q := q) hr (p := p) (by omega) (.cons (.assign 4 (.callG 34 (.cons (.var 0) (.cons (.var 1) .nil)))) (.cons (.assign 5 (.cmp .ne (.var 4) (.var 0))) (.cons (.assign 0 (.var 4)) (.cons sC (.cons sD3 (.cons sA4 (.cons sD5 (.cons (.assign 7 (.len (.var 0))) (.cons sE (.cons (.ret sF) .nil)))))))))); rw [eA]; generalize step1 p r = r1 at l1; rw [lawB (by omega) (by omega) o3 o4]
  have l2 : (step2 p r1).length ≤ r1.length := lessE_len p r1
  generalize (lessE p r1).isSome = found; generalize step2 p r1 = r2 at l2; obtain ⟨z4, q4, eC⟩ := lawC (n := n) (fl := fl) (q := q) (p := p) (r := r2) (x3 := y3) (x4 := some (as (tx r2.reverse))) (x5 := some (ab found)) (by omega) (by omega) o3 rfl rfl (.cons sD3 (.cons sA4 (.cons sD5 (.cons (.assign 7 (.len (.var 0))) (.cons sE (.cons (.ret sF) .nil)))))); rw [eC]
  have l3 := step3_len p q r2
  generalize step3 p q r2 = r3 at l3; obtain ⟨w3, w4, w6, v3, v4, v6, eD⟩ := lawD (n := n) (fl := fl) (q := q) (p := p) (r := r3) (x3 := y3) (x4 := z4) (found := found) (by omega) (by omega) (by omega) o3 q4 (.cons (.assign 7 (.len (.var 0))) (.cons sE (.cons (.ret sF) .nil))); rw [eD]
  have l4 := step4_len p q found r3
  generalize step4 p q found r3 = r4 at l4; rw [lawE (by omega)]
  have l5 := step5_len r4
  generalize step5 r4 = r5 at l5
  have hF := lawF (Γ := cl (n + 4)) (fl := fl) (l := r5.reverse) (σ := ⟨[], fl⟩) (loc := W r5 p q w3 w4 (some (ab found)) w6 (some (ai r4.length))) (by rw [List.length_reverse]; omega) rfl (own_W v3 v4 rfl v6 rfl _)
  rw [B_ret (S_ret hF rfl)]; rfl
def Piece (v : AV) : Prop := ∃ w : List Nat, w.length < 100 ∧ v = as (tx w)
abbrev pieces : List (List Nat) := [[101, 110], [101, 110, 101], [104, 101, 100, 101, 110], [115, 101], [104, 101, 105, 100], [101, 110, 104, 101, 105, 100], [99, 104, 101, 105, 100], [103, 101, 109], [103, 101, 109, 101, 110], [101, 110, 100], [105, 110, 103], [105, 103], [101, 105, 103], [105, 103, 101, 110, 100], [101, 105, 103, 105, 110, 103], [108, 105, 106, 107], [101, 108, 105, 106, 107], [108, 105, 106, 107, 101], [98, 97, 97, 114], [98, 97, 114], [98, 97, 114, 101], [100, 100], [107, 107], [116, 116], [100, 100, 101, 110], [107, 107, 105, 110, 103], [116, 116, 101], [97, 97], [101, 101], [111, 111], [117, 117], [97, 97, 110], [101, 101, 114], [111, 111, 112], [117, 117, 114], [97, 97, 105, 101], [97, 97, 121, 101], [105, 106, 115], [118, 101, 114], [111, 110, 116], [98, 101], [119, 101, 114, 107], [108, 111, 111, 112], [107, 105, 110, 100], [103, 101], [776]]
theorem pieces_spec : cl (n + 1) 25 [] fl = some (strsL pieces, fl) := by
  rw [cl_at (F := ⟨0, _, c_law_pieces⟩) rfl rfl]; show retOf (evB tabs (cl n) 1000 (.cons (.ret (.list (strsCA pieces))) .nil) ⟨[], fl⟩) = _; rw [B_ret (S_ret (v := strsL pieces) (E_strs (by decide)) rfl)]; rfl
theorem glob_s {σ : AS} : evE tabs Γ (.glob (.ofString "_law_signs")) σ = some (.at (.str signsS), σ.fl) := by
  have h : tabs.glob (.ofString "_law_signs") = some (.at (.str signsS)) := by
    show (if (Str.ofString "_law_signs") = .ofString "_law_signs" then some (AV.at (.str signsS)) else if (Str.ofString "_law_signs") = .ofString "_law_vowels" then some (AV.list vowelsL) else none) = _
    rw [if_pos rfl]
  rw [evE, h]; rfl
abbrev kWd : CB := (.cons (.assign 4 (.bin .mod (.var 3) (.int 90))) (.cons (.assign 5 (.ite (.cmp .lt (.var 4) (.int 44)) (.idx (.glob (.ofString "_law_signs")) (.var 4)) (.idx (.callG 25 .nil) (.bin .sub (.var 4) (.int 44))))) (.cons (.ite (.cmp .le (.bin .add (.len (.var 2)) (.len (.var 5))) (.var 1)) (.cons (.assign 2 (.bin .add (.var 2) (.var 5))) .nil) .nil) .nil)))
theorem word_turn {A : AV} (hA : okv (some A) = true) {M : Nat} {w : List Nat} {m : Int} {x4 x5 : Option AV} (hM : M ≤ 100) (hw : w.length ≤ M) (o4 : okv x4 = true) (o5 : okv x5 = true) : ∃ (w' : List Nat) (y4 y5 : Option AV), w'.length ≤ M ∧ okv y4 = true ∧ okv y5 = true ∧
    evB tabs (cl (n + 1)) 1000 kWd ⟨[some A, some (ai M), some (as (tx w)), vI m, x4, x5], fl⟩ = some (⟨[some A, some (ai M), some (as (tx w')), vI m, y4, y5], fl⟩, .next) := by
  have hm0 : 0 ≤ m.fmod 90 := Int.fmod_nonneg_of_pos m (by omega)
  have hm1 : m.fmod 90 < 90 := Int.fmod_lt_of_pos m (by omega)
  obtain ⟨j, hj⟩ : ∃ j : Nat, m.fmod 90 = j := ⟨(m.fmod 90).toNat, by omega⟩; rw [hj] at hm1
  have h4 : evE tabs (cl (n + 1)) (.bin .mod (.var 3) (.int 90)) ⟨[some A, some (ai M), some (as (tx w)), vI m, x4, x5], fl⟩ = some (ai j, fl) := by
    refine E_bin (E_var rfl) E_int ?_; show (if (0 : Int) < 90 then some (ai (m.fmod 90)) else none) = _; rw [if_pos (by decide), hj]
  have s4 : evS tabs (cl (n + 1)) 1000 (.assign 4 (.bin .mod (.var 3) (.int 90))) ⟨[some A, some (ai M), some (as (tx w)), vI m, x4, x5], fl⟩ = some (⟨[some A, some (ai M), some (as (tx w)), vI m, some (ai j), x5], fl⟩, .next) := S_assign h4 rfl (by simp [okSet_eq, o4])
  obtain ⟨pc, hpc, h5⟩ : ∃ pc : List Nat, pc.length < 100 ∧ evE tabs (cl (n + 1)) (.ite (.cmp .lt (.var 4) (.int 44)) (.idx (.glob (.ofString "_law_signs")) (.var 4)) (.idx (.callG 25 .nil) (.bin .sub (.var 4) (.int 44)))) ⟨[some A, some (ai M), some (as (tx w)), vI m, some (ai j), x5], fl⟩ = some (as (tx pc), fl) := by
    have ht : evE tabs (cl (n + 1)) (.cmp .lt (.var 4) (.int 44)) ⟨[some A, some (ai M), some (as (tx w)), vI m, some (ai j), x5], fl⟩ = some (ab (decide ((j : Int) < 44)), fl) := E_cmp (E_var rfl) E_int rfl
    by_cases hj4 : (j : Int) < 44
    · have hjl : j < signsS.cps.size := by show j < 44; omega
      refine ⟨[signsS.cps[j]], by simp, ?_⟩; rw [E_ite ht, if_pos (by simpa using hj4)]; refine E_idx glob_s (E_var rfl) ?_; show (if small signsS.length && decide (0 ≤ (j : Int)) then (signsS.cps[(j : Int).toNat]?).map fun c => as (chr1 c) else none) = _; rw [show (small signsS.length && decide (0 ≤ (j : Int))) = true by rw [Bool.and_eq_true]; exact ⟨rfl, decide_eq_true (by omega)⟩, if_pos rfl, Int.toNat_natCast, Array.getElem?_eq_getElem hjl]; rfl
    · have hjl : j - 44 < pieces.length := by show j - 44 < 46; omega
      have hall : ∀ x ∈ pieces, x.length < 100 := by decide
      refine ⟨pieces[j - 44], hall _ (List.getElem_mem hjl), ?_⟩; rw [E_ite ht, if_neg (by simpa using hj4)]
      have hpcs : evE tabs (cl (n + 1)) (.callG 25 .nil) ⟨[some A, some (ai M), some (as (tx w)), vI m, some (ai j), x5], fl⟩ = some (strsL pieces, fl) := E_callG A_nil rfl (by simp [hasOwn_eq, o5, hA, ai, as]) pieces_spec
      refine E_idx hpcs (E_bin (v := ai ((j - 44 : Nat) : Int)) (E_var rfl) E_int (sub_ai (by omega))) ?_; show (if small (pieces.map fun e => Atom.str (tx e)).length && decide (0 ≤ ((j - 44 : Nat) : Int)) then ((pieces.map fun e => Atom.str (tx e))[((j - 44 : Nat) : Int).toNat]?).map AV.at else none) = _; rw [show (small (pieces.map fun e => Atom.str (tx e)).length && decide (0 ≤ ((j - 44 : Nat) : Int))) = true by rw [Bool.and_eq_true]; exact ⟨rfl, decide_eq_true (by omega)⟩, if_pos rfl, Int.toNat_natCast, List.getElem?_map, List.getElem?_eq_getElem hjl]; rfl
  have s5 : evS tabs (cl (n + 1)) 1000 (.assign 5 (.ite (.cmp .lt (.var 4) (.int 44)) (.idx (.glob (.ofString "_law_signs")) (.var 4)) (.idx (.callG 25 .nil) (.bin .sub (.var 4) (.int 44))))) ⟨[some A, some (ai M), some (as (tx w)), vI m, some (ai j), x5], fl⟩ = some (⟨[some A, some (ai M), some (as (tx w)), vI m, some (ai j), some (as (tx pc))], fl⟩, .next) := S_assign h5 rfl (by simp [okSet_eq, o5])
  have t6 : evT tabs (cl (n + 1)) (.cmp .le (.bin .add (.len (.var 2)) (.len (.var 5))) (.var 1)) ⟨[some A, some (ai M), some (as (tx w)), vI m, some (ai j), some (as (tx pc))], fl⟩ = some (decide (w.length + pc.length ≤ M), fl) := by
    refine T_of (E_cmp (E_bin (v := ai ((w.length : Int) + pc.length)) (E_len (E_var rfl) (len_tx (sm (by omega)))) (E_len (E_var rfl) (len_tx (sm (by omega)))) rfl) (E_var rfl) ?_); show some (decide ((w.length : Int) + pc.length ≤ M)) = _; rw [decide_eq_decide.mpr (show (w.length : Int) + pc.length ≤ M ↔ w.length + pc.length ≤ M by omega)]
  by_cases hle : w.length + pc.length ≤ M
  · rw [decide_eq_true hle] at t6
    refine ⟨w ++ pc, some (ai j), some (as (tx pc)), by simpa using hle, rfl, rfl, ?_⟩
    have ha : evE tabs (cl (n + 1)) (.bin .add (.var 2) (.var 5)) ⟨[some A, some (ai M), some (as (tx w)), vI m, some (ai j), some (as (tx pc))], fl⟩ = some (as (tx (w ++ pc)), fl) := E_bin (E_var rfl) (E_var rfl) (add_tx (by simp only [small, decide_eq_true_eq]; omega))
    exact (B_next s4).trans ((B_next s5).trans (B_one.trans ((S_true t6).trans ((B_next (S_assign ha rfl rfl)).trans B_nil))))
  · rw [decide_eq_false hle] at t6
    exact ⟨w, some (ai j), some (as (tx pc)), hw, rfl, rfl, (B_next s4).trans ((B_next s5).trans ((B_skip t6).trans B_nil))⟩
theorem word_loop {A : AV} (hA : okv (some A) = true) {M : Nat} (hM : M ≤ 100) : ∀ (ns : List Int) (w : List Nat) (x3 x4 x5 : Option AV), w.length ≤ M → okv x3 = true → okv x4 = true → okv x5 = true →
    ∃ (w' : List Nat) (y3 y4 y5 : Option AV), w'.length ≤ M ∧ forN 3 (fun σ => evB tabs (cl (n + 1)) 1000 kWd σ) (ns.map Atom.int) ⟨[some A, some (ai M), some (as (tx w)), x3, x4, x5], fl⟩ = some (⟨[some A, some (ai M), some (as (tx w')), y3, y4, y5], fl⟩, .next)
  | [], w, x3, x4, x5, hw, _, _, _ => ⟨w, x3, x4, x5, hw, rfl⟩
  | m :: ns, w, x3, x4, x5, hw, o3, o4, o5 => by
    obtain ⟨w1, y4, y5, h1, q4, q5, e1⟩ := word_turn (n := n) (fl := fl) hA (m := m) hM hw o4 o5; obtain ⟨w2, z3, z4, z5, h2, e2⟩ := word_loop hA hM ns w1 (vI m) y4 y5 h1 rfl q4 q5; refine ⟨w2, z3, z4, z5, h2, ?_⟩; rw [List.map_cons]; exact (for_next (by simp [okSet_eq, o3]) e1).trans e2
theorem law_word_spec {M : Nat} (hM : M ≤ 100) {ns : List Int} (hn : ns.length < 1000) : ∃ w : List Nat, w.length ≤ M ∧ cl (n + 2) 27 [.list (ns.map Atom.int), ai M] fl = some (as (tx w), fl) := by
  obtain ⟨w, y3, y4, y5, hw, h⟩ := word_loop (n := n) (fl := fl) (A := .list (ns.map Atom.int)) rfl hM ns [] none none none (by simp) rfl rfl rfl; refine ⟨w, hw, ?_⟩; rw [cl_at (F := ⟨2, _, c_law_word⟩) rfl rfl]; show retOf (evB tabs (cl (n + 1)) 1000 (.cons (.assign 2 (.str (tx []))) (.cons (.for 3 (.var 0) kWd) (.cons (.ret (.var 2)) .nil))) ⟨[some (.list (ns.map Atom.int)), some (ai M), none, none, none, none], fl⟩) = _; rw [B_next (σ' := ⟨[some (.list (ns.map Atom.int)), some (ai M), some (as (tx [])), none, none, none], fl⟩) (S_assign E_str rfl rfl)]
  have hf : evS tabs (cl (n + 1)) 1000 (.for 3 (.var 0) kWd) ⟨[some (.list (ns.map Atom.int)), some (ai M), some (as (tx [])), none, none, none], fl⟩ = some (⟨[some (.list (ns.map Atom.int)), some (ai M), some (as (tx w)), y3, y4, y5], fl⟩, .next) := by
    rw [evS, E_var (v := .list (ns.map Atom.int)) rfl]
    have hi : iterV (.list (ns.map Atom.int)) = some (ns.map Atom.int) := by
      show (if small (ns.map Atom.int).length then some (ns.map Atom.int) else none) = _
      rw [List.length_map, if_pos (show small ns.length = true by simp only [small, decide_eq_true_eq]; omega)]
    simp only [hi]; exact h
  rw [B_next hf, B_ret (S_ret (v := as (tx w)) (E_var rfl) rfl)]; rfl
end Mine
namespace Mine
variable {l : List Int}
theorem slice_list {L : List Atom} {lo hi : Nat} (hL : L.length < 1000) (h1 : lo < 1000) (h2 : hi < 1000) : sliceV (.list L) (some (lo : Int)) (some (hi : Int)) = some (.list ((L.take hi).drop lo)) := by
  have hs : small L.length = true := by simp only [small, decide_eq_true_eq]; omega
  unfold sliceV; simp [hs]; exact ⟨by omega, by omega⟩
theorem sliceTo_list {L : List Atom} {hi : Nat} (hL : L.length < 1000) (h2 : hi < 1000) : sliceV (.list L) none (some (hi : Int)) = some (.list (L.take hi)) := by
  have hs : small L.length = true := by simp only [small, decide_eq_true_eq]; omega
  unfold sliceV; simp [hs]; omega
theorem init_gives : ∃ fl1, Nine fl1 ∧ cl 40 0 [.at .me] flE = some (.at (.cst .none), fl1) := by
  have h := set_spec (n := 38) (l := []) rfl none none none none none none none none none
  refine ⟨mkF [] 0 0 0 0 0 none none none, ⟨_, _, _, _, _, _, _, _, _, rfl⟩, ?_⟩; show cl (39 + 1) 0 [.at .me] flE = _; rw [cl_at (F := ⟨1, _, c_init⟩) rfl rfl]
  have h2 : evE tabs (cl 39) (.callM 0 1 (.cons (.str ⟨#[]⟩) .nil)) ⟨[some (.at .me)], flE⟩ = some (.at (.cst .none), mkF [] 0 0 0 0 0 none none none) := E_callM rfl A_str rfl rfl h
  show retOf (evB tabs (cl 39) 1000 (.cons (.expr (.callM 0 1 (.cons (.str ⟨#[]⟩) .nil))) .nil) ⟨[some (.at .me)], flE⟩) = _
  rw [B_next (S_expr h2), B_nil]; rfl
theorem law1_gives (hl : l.length ≤ 63) : ∃ w1 w2 w3 : List Nat, w1.length ≤ 24 ∧ w2.length ≤ 16 ∧ w3.length ≤ 16 ∧
    evB tabs (cl 40) 1000 c_law1 (lawIn l) = some (⟨[some (.list (l.map Atom.int)), some (as (tx w1)), some (as (tx w2)), some (as (tx w3)), none], []⟩, .next) := by
  have hL : (l.map Atom.int).length < 1000 := by rw [List.length_map]; omega
  obtain ⟨w1, k1, e1⟩ := law_word_spec (n := 38) (fl := []) (M := 24) (by omega) (ns := l.take 7) (by simp; omega); obtain ⟨w2, k2, e2⟩ := law_word_spec (n := 38) (fl := []) (M := 16) (by omega) (ns := (l.take 11).drop 7) (by simp; omega); obtain ⟨w3, k3, e3⟩ := law_word_spec (n := 38) (fl := []) (M := 16) (by omega) (ns := (l.take 12).drop 11) (by simp; omega); refine ⟨w1, w2, w3, k1, k2, k3, ?_⟩
  have m1 : (l.take 7).map Atom.int = (l.map Atom.int).take 7 := List.map_take ..
  have m2 : ((l.take 11).drop 7).map Atom.int = ((l.map Atom.int).take 11).drop 7 := by rw [List.map_drop, List.map_take]
  have m3 : ((l.take 12).drop 11).map Atom.int = ((l.map Atom.int).take 12).drop 11 := by rw [List.map_drop, List.map_take]
  rw [m1] at e1; rw [m2] at e2; rw [m3] at e3; rw [show lawIn l = ⟨[some (.list (l.map Atom.int)), none, none, none, none], []⟩ from rfl]; generalize l.map Atom.int = L at hL e1 e2 e3 ⊢
  have c1 : evE tabs (cl 40) (.callG 27 (.cons (.sliceTo (.var 0) (.int 7)) (.cons (.int 24) .nil))) ⟨[some (.list L), none, none, none, none], []⟩ = some (as (tx w1), []) :=
    E_callG (A2 (E_sliceTo (h := 7) (E_var rfl) E_int (sliceTo_list (hi := 7) hL (by omega))) E_int) rfl rfl e1
  have c2 : evE tabs (cl 40) (.callG 27 (.cons (.slice (.var 0) (.int 7) (.int 11)) (.cons (.int 16) .nil))) ⟨[some (.list L), some (as (tx w1)), none, none, none], []⟩ = some (as (tx w2), []) :=
    E_callG (A2 (E_slice (lo := 7) (hi := 11) (E_var rfl) E_int E_int (slice_list (lo := 7) (hi := 11) hL (by omega) (by omega))) E_int) rfl rfl e2
  have c3 : evE tabs (cl 40) (.callG 27 (.cons (.slice (.var 0) (.int 11) (.int 12)) (.cons (.int 16) .nil))) ⟨[some (.list L), some (as (tx w1)), some (as (tx w2)), none, none], []⟩ = some (as (tx w3), []) :=
    E_callG (A2 (E_slice (lo := 11) (hi := 12) (E_var rfl) E_int E_int (slice_list (lo := 11) (hi := 12) hL (by omega) (by omega))) E_int) rfl rfl e3
  unfold c_law1; refine (B_next (σ' := ⟨[some (.list L), some (as (tx w1)), none, none, none], []⟩) (S_assign c1 rfl rfl)).trans ?_; refine (B_next (σ' := ⟨[some (.list L), some (as (tx w1)), some (as (tx w2)), none, none], []⟩) (S_assign c2 rfl rfl)).trans ?_; exact (B_next (S_assign c3 rfl rfl)).trans B_nil
theorem law2_gives {A : AV} (hA : okv (some A) = true) {w1 w2 w3 : List Nat} (h1 : w1.length ≤ 24) (h2 : w2.length ≤ 16) (h3 : w3.length ≤ 16) {fl : FL} (hn : Nine fl) : ∃ σ', evB tabs (cl 40) 1000 c_law2 ⟨[some A, some (as (tx w1)), some (as (tx w2)), some (as (tx w3)), some (.at .me)], fl⟩ = some (σ', .ret (ab true)) := by
  have ho : ∀ fl, hasOwn ⟨[some A, some (as (tx w1)), some (as (tx w2)), some (as (tx w3)), some (.at .me)], fl⟩ = false := by intro fl; simp [hasOwn_eq, hA, as]
  obtain ⟨fl1, n1, e1⟩ := word_spec (n := 31) hn (l := w1) (by omega); obtain ⟨fl2, n2, e2⟩ := words_spec (n := 30) n1 (u := w2) (v := w3) (by omega) (by omega)
  have d1 := law_stem_spec (n := 35) (fl := fl1) (l := w1) (by omega)
  have d2 := law_stem_spec (n := 35) (fl := fl2) (l := w2) (by omega)
  have d3 := law_stem_spec (n := 35) (fl := fl2) (l := w3) (by omega)
  rw [agree] at e1; rw [agree, agree] at e2
  have a1 : evE tabs (cl 40) (.callM 4 13 (.cons (.var 1) .nil)) ⟨[some A, some (as (tx w1)), some (as (tx w2)), some (as (tx w3)), some (.at .me)], fl⟩ = some (as (tx (stemL w1)), fl1) := E_callM rfl (A1 (E_var rfl)) rfl (ho _) e1
  have b1 : evE tabs (cl 40) (.callG 35 (.cons (.var 1) .nil)) ⟨[some A, some (as (tx w1)), some (as (tx w2)), some (as (tx w3)), some (.at .me)], fl1⟩ = some (as (tx (stemL w1)), fl1) := E_callG (A1 (E_var rfl)) rfl (ho _) d1
  have t1 : evT tabs (cl 40) (.cmp .ne (.callM 4 13 (.cons (.var 1) .nil)) (.callG 35 (.cons (.var 1) .nil))) ⟨[some A, some (as (tx w1)), some (as (tx w2)), some (as (tx w3)), some (.at .me)], fl⟩ = some (false, fl1) := by
    refine T_cmp a1 b1 ?_; show some (tx (stemL w1) != tx (stemL w1)) = _; rw [bne_self_eq_false]
  have hlist : ∀ (a b : CE) (x y : Str) (fl : FL), evE tabs (cl 40) a ⟨[some A, some (as (tx w1)), some (as (tx w2)), some (as (tx w3)), some (.at .me)], fl⟩ = some (as x, fl) → evE tabs (cl 40) b ⟨[some A, some (as (tx w1)), some (as (tx w2)), some (as (tx w3)), some (.at .me)], fl⟩ = some (as y, fl) →
      evE tabs (cl 40) (.list (.cons a (.cons b .nil))) ⟨[some A, some (as (tx w1)), some (as (tx w2)), some (as (tx w3)), some (.at .me)], fl⟩ = some (.list [.str x, .str y], fl) := by
    intro a b x y fl ha hb
    rw [evE, A2 ha hb]; rfl
  have a2 : evE tabs (cl 40) (.callM 4 14 (.cons (.list (.cons (.var 2) (.cons (.var 3) .nil))) .nil)) ⟨[some A, some (as (tx w1)), some (as (tx w2)), some (as (tx w3)), some (.at .me)], fl1⟩ = some (.list [.str (tx (stemL w2)), .str (tx (stemL w3))], fl2) := E_callM rfl (A1 (hlist _ _ _ _ _ (E_var rfl) (E_var rfl))) rfl (ho _) e2
  have b2 : evE tabs (cl 40) (.callG 35 (.cons (.var 2) .nil)) ⟨[some A, some (as (tx w1)), some (as (tx w2)), some (as (tx w3)), some (.at .me)], fl2⟩ = some (as (tx (stemL w2)), fl2) := E_callG (A1 (E_var rfl)) rfl (ho _) d2
  have b3 : evE tabs (cl 40) (.callG 35 (.cons (.var 3) .nil)) ⟨[some A, some (as (tx w1)), some (as (tx w2)), some (as (tx w3)), some (.at .me)], fl2⟩ = some (as (tx (stemL w3)), fl2) := E_callG (A1 (E_var rfl)) rfl (ho _) d3
  have b4 := hlist _ _ _ _ _ b2 b3
  have c2 : evE tabs (cl 40) (.cmp .eq (.callM 4 14 (.cons (.list (.cons (.var 2) (.cons (.var 3) .nil))) .nil)) (.list (.cons (.callG 35 (.cons (.var 2) .nil)) (.cons (.callG 35 (.cons (.var 3) .nil)) .nil)))) ⟨[some A, some (as (tx w1)), some (as (tx w2)), some (as (tx w3)), some (.at .me)], fl1⟩ = some (ab true, fl2) := by
    rw [evE, a2]; simp only [b4]
    have : cmpV .eq (.list [.str (tx (stemL w2)), .str (tx (stemL w3))]) (.list [.str (tx (stemL w2)), .str (tx (stemL w3))]) = some true := by
      simp [cmpV, strsOf]
    rw [this]; rfl
  unfold c_law2; exact ⟨_, (B_skip t1).trans (B_ret (S_ret c2 rfl))⟩
theorem law_all (l : List Int) (hl : l.length ≤ 63) : LawGives l := by
  obtain ⟨w1, w2, w3, k1, k2, k3, e1⟩ := law1_gives hl; obtain ⟨fl1, n1, e2⟩ := init_gives; obtain ⟨σ', e3⟩ := law2_gives (A := .list (l.map Atom.int)) rfl k1 k2 k3 n1; exact ⟨_, fl1, σ', e1, rfl, rfl, e2, e3⟩
end Mine
namespace Mine
theorem ints_reps {vs : List Value} {l : List Int} (h : IntsAre vs l) : Reps none (l.map Atom.int) vs := by
  induction h with
  | nil => exact .nil
  | cons n t _ ih => exact .cons ⟨t, rfl⟩ ih
theorem law_top {w : World} {s₁ : Shared} (fx : Fixed w s₁.heap) (lb : Labs s₁.heap) {vs : List Value} {l : List Int} {a L fa : Addr} {h₁ : Heap} {m : Str → Option Value} {tk : Nat} {name : Str} {scope : Scope} {cd : Value} {Q : Flow → Shared → Prop} {E : Value → Shared → Prop}
    {l₁ l₂ : List Stmt} {p1 p2 p3 p4 : Pos} (hI : IntsAre vs l) (hL : s₁.heap.IsList a vs.toArray) (hg : s₁.gens = #[]) (F : Fr s₁.heap L h₁ m) (law : LawGives l) (hm : m (.ofString "script") = some (.ref a)) (hLn : s₁.heap.get? L = none) (hkd : scope.kind = .function)
    (k1 : scope.names.lookup (.ofString "script") = some .local) (k4 : scope.names.lookup (.ofString "stemmer") = some .local) (k5 : scope.names.lookup (.ofString "DutchPorterStemmer") = some .globalImplicit)
    (h1 : isB ⟨lawNames, scope.names⟩ c_law1 l₁ = true) (h2 : isB ⟨lawNames, scope.names⟩ c_law2 l₂ = true)
    (q : ∀ s', s₁.heap.StaysIn s'.heap → s'.gens = #[] → s'.os = s₁.os → Q (.ret (.bool true)) s') :
    wpAny (model pw w) (callerA.deeper (envOf name scope L fa cd)) (execs (l₁ ++ .Assign [.Name (.ofString "stemmer") p1] (.Call (.Name (.ofString "DutchPorterStemmer") p2) [] [] p3) p4 :: l₂) (envOf name scope L fa cd)) Q E { s₁ with heap := h₁, toks := tk } := by
  obtain ⟨oL, es, ep, hoL, hdL, _⟩ := id F.ns
  have hnew : s₁.heap.get? L = none := hLn
  refine law_walk (B := s₁.heap) (os := s₁.os) (fr := [envOf name scope L fa cd]) (c := ⟨lawNames, scope.names⟩) fx lb rfl rfl h1 h2 k4 k5 ?_ ?_ law q
  · exact { stack := rfl, handled := rfl, depth := by show callerA.depth + 1 + 42 + 10 ≤ recursionLimit; decide +kernel, units := by show callerA.units + 3 + 4 * 42 + 200 ≤ cLine; decide +kernel, kind := hkd, globals := rfl, builtins := rfl, nodup := by show lawNames.Nodup; decide +kernel, newL := hnew, outer := ⟨[], rfl⟩, frame := rfl }
  · exact {
      stays := F.keep
      frs := ⟨by show scope.kind ≠ _; rw [hkd]; decide, ⟨L, oL, rfl, hnew, hoL, fun vs q => by rw [hdL] at q; cases q⟩, trivial⟩
      inst := fun x dx e => by cases e
      loc := ⟨_, F.ns⟩
      vars := fun i v e => by
        match i with
        | 0 =>
          have : v = .list (l.map Atom.int) := by
            have := Option.some.inj (Option.some.inj e); exact this.symm
          subst this; obtain ⟨o, ho, hc, n, hd⟩ := hL; exact ⟨_, .ref a, rfl, .inl ⟨k1, m, F.ns, hm⟩, a, vs.toArray, rfl, (fun q => by cases q), ⟨o, F.keep _ _ ho, hc, n, hd⟩, by simpa using ints_reps hI⟩
        | 1 => cases Option.some.inj e
        | 2 => cases Option.some.inj e
        | 3 => cases Option.some.inj e
        | 4 => cases Option.some.inj e
        | n + 5 => cases e
      dr := fun i v e => by
        match i with
        | 0 =>
          have : v = .list (l.map Atom.int) := by
            have := Option.some.inj (Option.some.inj e); exact this.symm
          subst this; rfl
        | 1 => cases Option.some.inj e
        | 2 => cases Option.some.inj e
        | 3 => cases Option.some.inj e
        | 4 => cases Option.some.inj e
        | n + 5 => cases e
      len := rfl
      ld := fun h => by cases h
      gown := fun a e => by cases e
      gens := hg
      os := rfl }
end Mine
set_option maxHeartbeats 8000000 in
theorem PySem.Challenge.cw_ip0004_01_holds : PySem.Challenge.rw_ip0004_01.Holds := by
  w_on
  o_law
  refine holds_open (q := Mine.qv) (loose := Mine.looseV) (Xt := Mine.Xt0) (XP := XL Mine.qv []) (Yf := fun s => s.heap) (Ya := fun w => Mine.Hfin w.params) (YP := Mine.YP0) (N := 20000) Mine.left0 ?hY ?hYk (fun s e => xl_of s (Bool.and_eq_true_iff.mp e).1) XL.keeps (by rfl) (by rfl) (by rfl) (fun s e => recFacts_of (Bool.and_eq_true_iff.mp e).2) (by rfl) ?k1 ?ok ?hb ?hw ?call
  case hY => exact fun w s e b o h => by rw [e]; exact h
  case hYk => exact fun w h h' a k b o e => k b o (a b o e)
  case k1 => assumption
  case ok => k_qdec
  case hb => exact ⟨rfl, rfl, rfl, rfl, rfl, by decide +kernel⟩
  case hw => w_witness2
  case call =>
    intro w s₀ s₁ mg mb G Y fa o pm cd doc dV kV ho hd hcd hD hmg hg args vals as hpre hlay hrd hwl hlo
    k_behind G ho hd hcd hD hmg hpre hlay hrd hwl hlo cd
    rename Top _ _ _ _ _ _ => T
    rename Fr _ _ _ _ => F
    rename IntsAre _ _ => hI
    rename Heap.IsList _ _ _ => hL
    have fx := Mine.fixed_of Y T.g T.b T.builtins T.nolimit
    have lb := Mine.labs_of ((Mine.kk_in w.params).keeps Y) T.g
    refine Mine.law_top (l₁ := [_, _, _]) (l₂ := [_, _]) fx lb hI hL hg F (Mine.law_all _ ?_) rfl (Mine.get_size _) rfl (by kernel_rfl!) (by kernel_rfl!) (by kernel_rfl!) (by kernel_rfl!) (by kernel_rfl!) ?_
    · omega
    · intro s' h1 h2 h3
      show GoodW _ _ _ _ _ (.ok (.ret (.bool true))) s'
      refine ⟨.inl ⟨.bool true, .bool true, [], rfl, fun _ => rfl, .bool true, ?_, fun _ => ⟨.nil, by simp⟩⟩, h1, h3, h2⟩
      first | kernel_rfl! | kernel_rfl | rfl
