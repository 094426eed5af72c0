import PyProof.Rows.All
import Wide.All
import OpenK.AllK
import Wide.FinOn
import Open.Tops
import PyProof.ExcBaseAll.Exception
import Lean
import PySem.Challenge.RW_ip0004_01
open PySem PySem.W PyProof.Rows
set_option Elab.async false
set_option maxRecDepth 100000
set_option linter.all false
set_option genSizeOfSpec false
set_option genInjectivity false
namespace Mine
section
variable {tb:String→Option Builtin} {p:Program} {w:World} {n₀:Nat} {ann:Option Value} {b:Nat}
theorem segRun_mono (k:Nat):∀ {n:Nat} {s:Shared} {t:Thread} {r:Flow × Shared × Code × Pos},
    segRun tb p w n₀ ann b n s t = some r→segRun tb p w n₀ ann b (n+k) s t = some r
  | 0,_,_,_,h=>by simp [segRun] at h
  | n+1,s,t,r,h=>by
    rw [show n+1+k = n+k+1 by omega]
    unfold segRun at h ⊢
    split at h
    · exact h
    · split at h
      · cases h
      · split at h
        · exact segRun_mono k h
        · cases h
theorem segRun_le {n m:Nat} (hnm:n ≤ m) {s:Shared} {t:Thread} {r:Flow × Shared × Code × Pos}
    (h:segRun tb p w n₀ ann b n s t = some r):segRun tb p w n₀ ann b m s t = some r:=by
  obtain ⟨k,rfl⟩:=Nat.exists_eq_add_of_le hnm
  exact segRun_mono k h
theorem segRun_step {n:Nat} {s s':Shared} {t t':Thread} {r:Flow × Shared × Code × Pos} (he:endAt b t = none) (hk:stepOk n₀ ann t = true)
    (hs:step (denote tb) p w s t = .go s' t') (h:segRun tb p w n₀ ann b n s' t' = some r):segRun tb p w n₀ ann b (n+1) s t = some r:=by
  unfold segRun
  rw [he,hk,hs]
  exact h
section inner
variable {α:Type} {B:List Frame} {K':α→Sem Fin} {H':Value→Sem Fin} {gd:Bool→Bool} {lv:List Value→List Value} {res:α→Flow}
theorem seg_in (hB:splitAtGen B = none) (hb:b < B.length):∀ (n:Nat) (s:Shared) (t t':Thread) (f:Flow) (s':Shared) (c':Code) (p':Pos),
    Rel2 (fun a=>.pure (.done (res a))) K' deadEnd H' gd lv B t t'→segRun tb p w n₀ ann B.length n s t = some (f,s',c',p')→
    ∃ a,res a = f∧∀ N r,segRun tb p w n₀ ann b N s' ⟨K' a,c',p',B⟩ = some r→segRun tb p w n₀ ann b (n+N) s t' = some r:=by
  intro n
  induction n with
  | zero=>intro s t t' f s' c' p' _ h;simp [segRun] at h
  | succ n ih=>
    rintro s ⟨cur,code,pos,st⟩ ⟨cur',code',pos',st'⟩ f s' c' p' ⟨e1,e2,R⟩ h
    dsimp only at e1 e2 R
    subst e1 e2
    unfold segRun at h
    cases he:endAt B.length ⟨cur,code,pos,st⟩ with
    | some g=>
      rw [he] at h
      simp only [Option.some.injEq,Prod.mk.injEq] at h
      obtain ⟨rfl,rfl,rfl,rfl⟩:=h
      rcases R with ⟨rfl,rfl,x,rfl,rfl⟩ | ⟨_,F⟩
      · cases x with
        | pure a=>
          simp only [endAt,Sem.wrap,beq_self_eq_true,Option.some.injEq] at he
          exact ⟨a,he,fun N r hN=>segRun_le (Nat.le_add_left N (n+1)) hN⟩
        | _=>simp [endAt,Sem.wrap] at he
      · have hne:(st.length == B.length) = false:=beq_eq_false_iff_ne.mpr (Nat.ne_of_gt F.longer.1)
        simp only [endAt,hne] at he
        cases he
    | none=>
      rw [he] at h
      dsimp only at h
      cases hk:stepOk n₀ ann ⟨cur,code,pos,st⟩ with
      | false=>rw [hk] at h;cases h
      | true=>
        rw [hk] at h
        dsimp only at h
        cases hs:step (denote tb) p w s ⟨cur,code,pos,st⟩ with
        | halt o s₂=>rw [hs] at h;cases h
        | go s₂ t₂=>
          rw [hs] at h
          dsimp only at h
          have key:stepOk n₀ ann ⟨cur',code,pos,st'⟩ = true∧endAt b ⟨cur',code,pos,st'⟩ = none ∧
              ∃ t₂',step (denote tb) p w s ⟨cur',code,pos,st'⟩ = .go s₂ t₂'∧Rel2 (fun a=>.pure (.done (res a))) K' deadEnd H' gd lv B t₂ t₂':=by
            rcases R with ⟨rfl,rfl,x,rfl,rfl⟩ | ⟨rfl,F⟩
            · have hp:∀ a,x ≠ .pure a:=by
                rintro a rfl
                simp [endAt,Sem.wrap] at he
              have hr:∀ e,x ≠ .raise e:=by
                rintro e rfl
                obtain ⟨heap,gens,drawn,toks,os⟩:=s
                simp only [Sem.wrap,step] at hs
                cases hs
              obtain ⟨k1,_⟩:=okOuter (K':=K') (H':=H') hp hr hk
              refine ⟨k1,?_,step_outer hB hp hs⟩
              simp only [endAt,beq_eq_false_iff_ne.mpr (Nat.ne_of_gt hb)]
            · obtain ⟨k1,_⟩:=okInner hB F hk
              refine ⟨k1,?_,step_inner hB F hs⟩
              have:(st'.length == b) = false:=beq_eq_false_iff_ne.mpr (Nat.ne_of_gt (Nat.lt_trans hb F.longer.2))
              simp only [endAt,this]
          obtain ⟨k1,k2,t₂',k3,R'⟩:=key
          obtain ⟨a,ha,hN⟩:=ih s₂ t₂ t₂' f s' c' p' R' h
          refine ⟨a,ha,fun N r q=>?_⟩
          rw [show n+1+N = n+N+1 by omega]
          exact segRun_step k2 k1 k3 (hN N r q)
end inner
end
noncomputable def RunsTo (p:Program) (w:World) (c:Code) (B:List Frame) {α:Type} (k:Nat) (t:Sem α) (s:Shared) (pos:Pos) (a:α) (s':Shared) (pos':Pos):Prop:=
  ∀ (K:α→Sem Fin) (H:Value→Sem Fin) (gd:Bool→Bool) (lv:List Value→List Value) (N:Nat) (r:Flow × Shared × Code × Pos),
    segRun treeTable p w 11 (some (.ref 6)) 1 N s' ⟨K a,c,pos',B⟩ = some r→
    segRun treeTable p w 11 (some (.ref 6)) 1 (k+N) s ⟨t.wrap K H gd lv,c,pos,B⟩ = some r
section runs
variable {p:Program} {w:World} {c:Code} {B:List Frame} {α β:Type} {s s' s'':Shared} {pos pos' pos'':Pos}
theorem RunsTo.pure {a:α}:RunsTo p w c B 0 (Pure.pure a:Sem α) s pos a s pos:=fun K H gd lv N r h=>by
  rw [Nat.zero_add];exact h
theorem RunsTo.mono {k k':Nat} {t:Sem α} {a:α} (h:RunsTo p w c B k t s pos a s' pos') (hk:k ≤ k'):RunsTo p w c B k' t s pos a s' pos':=
  fun K H gd lv N r q=>segRun_le (Nat.add_le_add_right hk N) (h K H gd lv N r q)
theorem RunsTo.bind {k k':Nat} {m:Sem α} {f:α→Sem β} {a:α} {b:β} (h:RunsTo p w c B k m s pos a s' pos') (h':RunsTo p w c B k' (f a) s' pos' b s'' pos'') :
    RunsTo p w c B (k+k') (m >>= f) s pos b s'' pos'':=fun K H gd lv N r q=>by
  rw [Sem.bind_eq_wrap',Sem.wrap_wrap,Nat.add_assoc]
  exact h _ _ _ _ _ r (h' K H gd lv N r q)
theorem RunsTo.holding {k:Nat} {vs:List Value} {m:Sem α} {a:α} (h:RunsTo p w c B k m s pos a s' pos'):RunsTo p w c B k (holding vs m) s pos a s' pos':=by
  unfold PySem.holding
  split
  · exact h
  · intro K H gd lv N r q
    rw [Sem.keep_eq_wrap,Sem.wrap_wrap]
    exact h K _ _ _ N r q
theorem RunsTo.catch {k:Nat} {m:Sem α} {g:Value→Sem α} {a:α} (h:RunsTo p w c B k m s pos a s' pos'):RunsTo p w c B k (m.tryCatch g) s pos a s' pos':=fun K H gd lv N r q=>by
  rw [Sem.tryCatch_eq_wrap,Sem.wrap_wrap]
  exact h K _ _ _ N r q
theorem endAt_none {cur:Sem Fin} (hB:1 < B.length):endAt 1 ⟨cur,c,pos,B⟩ = none:=by
  have:(B.length == 1) = false:=beq_eq_false_iff_ne.mpr (Nat.ne_of_gt hB)
  simp only [endAt,this]
theorem RunsTo.rule (hB:1 < B.length) {tag:String}:RunsTo p w c B 1 (PySem.rule tag) s pos () s pos:=fun K H gd lv N r h=>by
  rw [Nat.add_comm]
  refine segRun_step (endAt_none hB) rfl ?_ h
  cases s;rfl
theorem RunsTo.standAt (hB:1 < B.length):RunsTo p w c B 1 (PySem.standAt pos') s pos () s pos':=fun K H gd lv N r h=>by
  rw [Nat.add_comm]
  refine segRun_step (endAt_none hB) rfl ?_ h
  cases s;rfl
theorem RunsTo.ask (hB:1 < B.length):RunsTo p w c B 1 PySem.ask s pos ⟨p,w.params⟩ s pos:=fun K H gd lv N r h=>by
  rw [Nat.add_comm]
  refine segRun_step (endAt_none hB) rfl ?_ h
  cases s;rfl
theorem RunsTo.load (hB:1 < B.length) {a:Addr} {part:Option Value} {o:Obj} (ho:s.heap.get? a = some o):RunsTo p w c B 1 (.load a part .pure) s pos o s pos:=fun K H gd lv N r h=>by
  rw [Nat.add_comm]
  refine segRun_step (endAt_none hB) rfl ?_ h
  obtain ⟨heap,gens,drawn,toks,os⟩:=s
  simp only [Sem.wrap,step,ho]
theorem RunsTo.update (hB:1 < B.length) {a:Addr} {part:Option Value} {f:Obj→Obj} {o:Obj} (ha:Nat.ble 11 a = true) (ho:s.heap.get? a = some o) :
    RunsTo p w c B 1 (.update a part f .pure) s pos () { s with heap:=s.heap.update a f } pos:=fun K H gd lv N r h=>by
  rw [Nat.add_comm]
  refine segRun_step (endAt_none hB) ?_ ?_ h
  · simp only [stepOk,Sem.wrap,ha,Bool.true_or,Bool.and_true];rfl
  · obtain ⟨heap,gens,drawn,toks,os⟩:=s
    simp only [Sem.wrap,step,ho,Option.isSome_some,if_true]
theorem RunsTo.fresh (hB:1 < B.length):RunsTo p w c B 1 PySem.fresh s pos s.toks { s with toks:=s.toks+1 } pos:=fun K H gd lv N r h=>by
  rw [Nat.add_comm]
  refine segRun_step (endAt_none hB) rfl ?_ h
  cases s;rfl
theorem RunsTo.alloc (hB:1 < B.length) {o:Obj}:RunsTo p w c B 1 (PySem.alloc o) s pos s.heap.objs.size { s with heap:=s.heap.push o } pos:=fun K H gd lv N r h=>by
  rw [Nat.add_comm]
  refine segRun_step (endAt_none hB) rfl ?_ h
  cases s;rfl
theorem RunsTo.of_seg (hB:splitAtGen B = none) (h1:1 < B.length) {n:Nat} {m:Sem α} {res:α→Flow} {a:α} (hinj:∀ a',res a' = res a→a' = a)
    (h:∀ gd lv,segRun treeTable p w 11 (some (.ref 6)) B.length n s ⟨m.wrap (fun a=>.pure (.done (res a))) deadEnd gd lv,c,pos,B⟩ = some (res a,s',c,pos')) :
    RunsTo p w c B n m s pos a s' pos':=fun K H gd lv N r q=>by
  obtain ⟨a',ha,hN⟩:=seg_in (res:=res) (K':=K) (H':=H) (gd:=gd) (lv:=lv) hB h1 n s ⟨m.wrap (fun a=>.pure (.done (res a))) deadEnd gd lv,c,pos,B⟩ ⟨m.wrap K H gd lv,c,pos,B⟩ _ _ _ _ ⟨rfl,rfl,.inl ⟨rfl,rfl,_,rfl,rfl⟩⟩ (h gd lv)
  obtain rfl:=hinj a' ha
  exact hN N r q
end runs
end Mine
namespace Mine
noncomputable abbrev SetSt:=Array (Int × Value) × Nat × SetTable
noncomputable def SO (x:SetSt):Obj:={ cls:=.type "set",dict:=none,data:=.set x.1 x.2.1 x.2.2,slots:=#[] }
noncomputable def plainOff (t:SetTable):SetTable:=if t.plain then { t with plain:=false } else t
noncomputable def addSt (P:Params) (x:Str) (tk:Nat) (st:SetSt):SetSt:=
  let r:=layNew st.2.2 st.1 (PyData.keyHash P x) (.str x tk)
  let t2:=plainOff r.2.1
  if (!r.2.2.1 && t2.tooFull) = true then
    let q:=relayAll t2 r.1 (SetTable.grown r.1.size)
    (q.1,st.2.1+1+1,q.2.1)
  else (r.1,st.2.1+1,t2)
noncomputable def unledSt (st:SetSt):SetSt:=(st.1,st.2.1+1,{ st.2.2 with led:=false })
noncomputable def Bears (P:Params) (st:SetSt) (S:Str→Bool) (n:Nat):Prop:=
  (∀ e ∈ st.1.toList,∃ k t,e = (PyData.keyHash P k,Value.str k t))∧(∀ k,S k = true ↔ ∃ e ∈ st.1.toList,e.2.isStr k = true)∧st.1.size = n∧st.2.2.fits st.1.size = true
theorem isStr_str (k x:Str) (t:Tok):(Value.str x t).isStr k = decide (x = k):=by
  show (x == k) = decide (x = k)
  by_cases h:x = k
  · subst h;simp
  · rw [decide_eq_false h];exact beq_eq_false_iff_ne.mpr h
theorem bears_obj {P:Params} {st:SetSt} {S:Str→Bool} {n:Nat} (h:Bears P st S n) (prog:Program) (w:World) (hw:w.params = P):(SO st).SetObjOf (strKind prog w) S n:=by
  obtain ⟨h1,h2,h3,h4⟩:=h
  refine ⟨⟨rfl,rfl,rfl⟩,st.1,st.2.1,st.2.2,rfl,fun e he=>?_,fun k=>?_,h3,h4⟩
  · obtain ⟨k,t,rfl⟩:=h1 e he
    exact ⟨⟨k,strKind_is prog w k t,by subst hw;rfl⟩,rfl⟩
  · rw [h2 k]
    have e:∀ v,(strKind prog w).is k v = v.isStr k:=fun v=>(isStr_of k v).symm
    simp only [e]
theorem perm_push {P:Params} {st:SetSt} {S:Str→Bool} {n:Nat} {es':Array (Int × Value)} {x:Str} {tk:Nat} (h:Bears P st S n)
    (hp:List.Perm es'.toList (st.1.push (PyData.keyHash P x,.str x tk)).toList) :
    (∀ e ∈ es'.toList,∃ k t,e = (PyData.keyHash P k,Value.str k t))∧(∀ k,(S k || decide (k = x)) = true ↔ ∃ e ∈ es'.toList,e.2.isStr k = true)∧es'.size = n+1:=by
  obtain ⟨h1,h2,h3,_⟩:=h
  rw [Array.toList_push] at hp
  refine ⟨fun e he=>?_,fun k=>?_,?_⟩
  · rcases List.mem_append.mp (hp.mem_iff.mp he) with q | q
    · exact h1 e q
    · rw [List.mem_singleton] at q;exact ⟨x,tk,q⟩
  · rw [Bool.or_eq_true,h2 k,decide_eq_true_eq]
    constructor
    · rintro (⟨e,he,q⟩ | rfl)
      · exact ⟨e,hp.mem_iff.mpr (List.mem_append_left _ he),q⟩
      · exact ⟨_,hp.mem_iff.mpr (List.mem_append_right _ (List.mem_singleton.mpr rfl)),by simp [Value.isStr]⟩
    · rintro ⟨e,he,q⟩
      rcases List.mem_append.mp (hp.mem_iff.mp he) with he | he
      · exact .inl ⟨e,he,q⟩
      · rw [List.mem_singleton] at he;subst he
        rw [isStr_str,decide_eq_true_eq] at q
        exact .inr q.symm
  · rw [←Array.length_toList,hp.length_eq,List.length_append,Array.length_toList,h3];rfl
theorem plainOff_fits {t:SetTable} {n:Nat} (h:t.fits n = true):(plainOff t).fits n = true:=by
  unfold plainOff
  split
  · exact SetTable.fits_plain_off h
  · exact h
theorem bears_add {P:Params} {st:SetSt} {S:Str→Bool} {n:Nat} (x:Str) (tk:Nat) (h:Bears P st S n):Bears P (addSt P x tk st) (fun k=>S k || decide (k = x)) (n+1):=by
  have hp:=layNew_perm st.2.2 st.1 (PyData.keyHash P x) (.str x tk)
  have hf:=layNew_fits st.2.2 st.1 (PyData.keyHash P x) (.str x tk)
  obtain ⟨a1,a2,a3⟩:=perm_push h hp
  unfold addSt
  dsimp only
  split
  · have hp2:=relayAll_perm (plainOff (layNew st.2.2 st.1 (PyData.keyHash P x) (.str x tk)).2.1) (layNew st.2.2 st.1 (PyData.keyHash P x) (.str x tk)).1 (SetTable.grown (layNew st.2.2 st.1 (PyData.keyHash P x) (.str x tk)).1.size)
    have hf2:=relayAll_fits (plainOff (layNew st.2.2 st.1 (PyData.keyHash P x) (.str x tk)).2.1) (layNew st.2.2 st.1 (PyData.keyHash P x) (.str x tk)).1 (SetTable.grown (layNew st.2.2 st.1 (PyData.keyHash P x) (.str x tk)).1.size)
    refine ⟨fun e he=>a1 e (hp2.mem_iff.mp he),fun k=>(a2 k).trans ⟨fun ⟨e,he,q⟩=>⟨e,hp2.mem_iff.mpr he,q⟩,fun ⟨e,he,q⟩=>⟨e,hp2.mem_iff.mp he,q⟩⟩,?_,hf2⟩
    rw [←Array.length_toList,hp2.length_eq,Array.length_toList];exact a3
  · exact ⟨a1,a2,a3,plainOff_fits hf⟩
theorem bears_unled {P:Params} {st:SetSt} {S:Str→Bool} {n:Nat} (h:Bears P st S n):Bears P (unledSt st) S n:=by
  obtain ⟨h1,h2,h3,h4⟩:=h
  exact ⟨h1,h2,h3,h4⟩
theorem bears_fresh (P:Params) (led:Bool):Bears P (#[],0,.fresh 0 0 led) (fun _=>false) 0:=
  ⟨fun e he=>by simp at he,fun k=>by simp,rfl,rfl⟩
structure Hole (a:Addr) (S:Obj→Nat→Shared):Prop where
  big:Nat.ble 11 a = true
  get:∀ x k,(S (SO x) k).heap.get? a = some (SO x)
  upd:∀ x y k (f:Obj→Obj),f (SO x) = SO y→{ S (SO x) k with heap:=(S (SO x) k).heap.update a f } = S (SO y) k
  tok:∀ o k,(S o k).toks = k∧{ S o k with toks:=k+1 } = S o (k+1)
section
variable {p:Program} {w:World} {c:Code} {B:List Frame} {a:Addr} {S:Obj→Nat→Shared} {pos:Pos} {x:SetSt} {k:Nat}
theorem setState_runs (hB:1 < B.length) (hS:Hole a S) (hf:x.2.2.fits x.1.size = true):RunsTo p w c B 1 (setState a) (S (SO x) k) pos x (S (SO x) k) pos:=by
  unfold setState
  refine (RunsTo.load (part:=none) hB (hS.get x k)).bind (k':=0) (b:=x) ?_
  have hc:(x.2.2.place.size != x.1.size || decide (x.2.2.fill > x.2.2.mask)) = false:=by
    simp only [SetTable.fits,Bool.and_eq_true,beq_iff_eq,decide_eq_true_eq] at hf
    simp [hf.1,Nat.not_lt.mpr hf.2]
  dsimp only [SO]
  rw [hc]
  exact RunsTo.pure
theorem storeSet_runs (hB:1 < B.length) (hS:Hole a S) {es:Array (Int × Value)} {t:SetTable} (hz:es.size ≤ sizeLine) :
    RunsTo p w c B 2 (storeSet a es t) (S (SO x) k) pos () (S (SO (es,x.2.1+1,t)) k) pos:=by
  unfold storeSet
  refine (RunsTo.load (part:=none) hB (hS.get x k)).bind (k':=1) ?_
  dsimp only [SO]
  rw [if_neg (Nat.not_lt.mpr hz)]
  have h:=RunsTo.update (p:=p) (w:=w) (c:=c) (pos:=pos) (part:=none) (f:=Obj.putSet es t) hB hS.big (hS.get x k)
  rw [hS.upd x (es,x.2.1+1,t) k _ rfl] at h
  exact h
theorem gave_runs (hB:1 < B.length) {s:Shared} (b:Bool):RunsTo p w c B 1 (match b with | true=>rule "set.scan.the-table-gave-way" | false=>pure ()) s pos () s pos:=by
  cases b
  · exact RunsTo.pure.mono (Nat.zero_le 1)
  · exact RunsTo.rule hB
theorem findIdx_none {P:Params} {T:Str→Bool} {n:Nat} {y:Str} (hb:Bears P x T n) (hy:T y = false):x.1.findIdx? (·.2.isStr y) = none:=by
  rw [Array.findIdx?_eq_none_iff]
  intro e he
  cases q:e.2.isStr y with
  | false=>rfl
  | true=>rw [(hb.2.1 y).mpr ⟨e,Array.mem_toList_iff.mpr he,q⟩] at hy;cases hy
theorem add_runs (hB:1 < B.length) (hS:Hole a S) {T:Str→Bool} {n:Nat} {y:Str} {tk:Nat} (hb:Bears w.params x T n) (hy:T y = false) (hn:n+1 < scanBound) :
    RunsTo p w c B 10 (setAddHashed a (.str y tk) (PyData.keyHash w.params y)) (S (SO x) k) pos true (S (SO (addSt w.params y tk x)) k) pos:=by
  unfold setAddHashed setAddHashedIn
  refine RunsTo.holding ?_
  refine (setState_runs hB hS hb.2.2.2).bind (k':=9) ?_
  dsimp only
  have hsc:byScan (.str y tk) x.1 = true:=by
    have:x.1.all (fun e=>e.2.scannable) = true:=by
      rw [←Array.all_toList,List.all_eq_true]
      intro e he
      obtain ⟨_,_,rfl⟩:=hb.1 e he
      rfl
    simp only [byScan,Bool.and_eq_true,decide_eq_true_eq]
    refine ⟨⟨rfl,?_⟩,this⟩
    rw [hb.2.2.1];omega
  rw [hsc]
  simp only [↓reduceIte]
  refine RunsTo.bind (k:=9) (k':=0) (a:=some true) ?_ RunsTo.pure
  unfold setAddByScan
  refine (RunsTo.rule hB).bind (k':=8) ?_
  refine RunsTo.bind (k:=0) (k':=8) (a:=ScanMet.absent) (s':=S (SO x) k) (pos':=pos) ?_ ?_
  · unfold setScan
    dsimp only
    have hex:x.1.all (fun e=>isExactStrKey e.2) = true:=by
      rw [←Array.all_toList,List.all_eq_true]
      intro e he
      obtain ⟨_,_,rfl⟩:=hb.1 e he
      rfl
    rw [hex]
    simp only [↓reduceIte]
    unfold setScanStrs
    rw [findIdx_none hb hy]
    exact RunsTo.pure
  · dsimp only
    have hp:=layNew_perm x.2.2 x.1 (PyData.keyHash w.params y) (.str y tk)
    have hf:=layNew_fits x.2.2 x.1 (PyData.keyHash w.params y) (.str y tk)
    obtain ⟨_,_,a3⟩:=perm_push hb hp
    unfold addSt
    generalize layNew x.2.2 x.1 (PyData.keyHash w.params y) (.str y tk) = L at hf a3 ⊢
    obtain ⟨es1,t1,wasDummy,gave⟩:=L
    dsimp only at hf a3 ⊢
    have hz:es1.size ≤ sizeLine:=fits_of_scanBound (by omega)
    refine RunsTo.bind (k:=1) (k':=7) (gave_runs hB gave) ?_
    have hpl:RunsTo p w c B 0 (if t1.plain = true then hashByValue 8 (.str y tk) else pure true:Sem Bool) (S (SO x) k) pos (!t1.plain) (S (SO x) k) pos:=by
      cases t1.plain
      · exact RunsTo.pure
      · rw [if_pos rfl,hashByValue_scannable 8 rfl];exact RunsTo.pure
    have htail:∀ t2,t2 = plainOff t1→RunsTo p w c B 7 (do
        storeSet a es1 t2
        if (!wasDummy && t2.tooFull) = true then do
            (match (relayAll t2 es1 (SetTable.grown es1.size)).2.2 with | true=>rule "set.scan.the-table-gave-way" | false=>pure ())
            storeSet a (relayAll t2 es1 (SetTable.grown es1.size)).1 (relayAll t2 es1 (SetTable.grown es1.size)).2.1
            pure (some true)
          else pure (some true)) (S (SO x) k) pos (some true) (S (SO (if (!wasDummy && (plainOff t1).tooFull) = true then ((relayAll (plainOff t1) es1 (SetTable.grown es1.size)).1,x.2.1+1+1,(relayAll (plainOff t1) es1 (SetTable.grown es1.size)).2.1) else (es1,x.2.1+1,plainOff t1))) k) pos:=by
      rintro _ rfl
      refine RunsTo.bind (k:=2) (k':=5) (storeSet_runs hB hS hz) ?_
      split
      · have hp2:=relayAll_perm (plainOff t1) es1 (SetTable.grown es1.size)
        have hz2:(relayAll (plainOff t1) es1 (SetTable.grown es1.size)).1.size ≤ sizeLine:=by
          rw [←Array.length_toList,hp2.length_eq,Array.length_toList];exact hz
        refine RunsTo.bind (k:=1) (k':=4) (gave_runs hB _) ?_
        refine RunsTo.bind (k:=2) (k':=2) (storeSet_runs hB hS hz2) ?_
        exact RunsTo.pure.mono (Nat.zero_le 2)
      · exact RunsTo.pure.mono (Nat.zero_le 5)
    have hpo:plainOff t1 = if (!t1.plain) = true then t1 else { t1 with plain:=false }:=by
      unfold plainOff
      cases t1.plain<;>rfl
    by_cases hq:t1.plain = true
    · rw [if_pos hq] at hpl ⊢
      refine RunsTo.bind (k:=0) (k':=7) hpl ?_
      exact htail _ hpo.symm
    · rw [if_neg hq] at hpl ⊢
      refine RunsTo.bind (k:=0) (k':=7) hpl ?_
      exact htail _ hpo.symm
theorem unled_runs (hB:1 < B.length) (hS:Hole a S) {P:Params} {T:Str→Bool} {n:Nat} (hb:Bears P x T n) (hn:n < scanBound) :
    RunsTo p w c B 3 (setUnled a) (S (SO x) k) pos () (S (SO (unledSt x)) k) pos:=by
  unfold setUnled
  refine (setState_runs hB hS hb.2.2.2).bind (k':=2) ?_
  exact storeSet_runs hB hS (fits_of_scanBound (by rw [hb.2.2.1];exact hn))
end
end Mine
namespace Mine
noncomputable def sL0:List Str:=[.ofString "_wall",.ofString "k",.ofString "__name__",.ofString "snowballstemmer.basestemmer",.ofString "BaseStemmer",.ofString "__init__",.ofString "self",.ofString "set_current",.ofString "",.ofString "value",.ofString "current",.ofString "cursor",.ofString "limit",.ofString "len",.ofString "limit_backward",.ofString "bra"]
noncomputable def sL1:List Str:=[.ofString "ket",.ofString "get_current",.ofString "copy_from",.ofString "other",.ofString "in_grouping",.ofString "s",.ofString "go_in_grouping",.ofString "in_grouping_b",.ofString "go_in_grouping_b",.ofString "out_grouping",.ofString "go_out_grouping",.ofString "out_grouping_b",.ofString "go_out_grouping_b",.ofString "eq_s",.ofString "eq_s_b",.ofString "endswith"]
noncomputable def sL2:List Str:=[.ofString "find_among",.ofString "v",.ofString "i",.ofString "j",.ofString "c",.ofString "l",.ofString "common_i",.ofString "common_j",.ofString "first_key_inspected",.ofString "diff",.ofString "common",.ofString "min",.ofString "w",.ofString "i2",.ofString "range",.ofString "ord"]
noncomputable def sL3:List Str:=[.ofString "result",.ofString "substring_i",.ofString "find_among_b",.ofString "lb",.ofString "replace_s",.ofString "c_bra",.ofString "c_ket",.ofString "adjustment",.ofString "slice_from",.ofString "slice_del",.ofString "insert",.ofString "slice_to",.ofString "assign_to",.ofString "stemWord",.ofString "word",.ofString "_stem"]
noncomputable def sL4:List Str:=[.ofString "stemWords",.ofString "words",.ofString ".0",.ofString "fast",.ofString "snowballstemmer.among",.ofString "Among",.ofString "snowballstemmer.dutch_porter_stemmer",.ofString "DutchPorterStemmer",.ofString "g_v",.ofString "a",.ofString "e",.ofString "o",.ofString "u",.ofString "y",.ofString "è",.ofString "g_v_I"]
noncomputable def sL5:List Str:=[.ofString "I",.ofString "g_v_j",.ofString "I_p2",.ofString "I_p1",.ofString "B_e_found",.ofString "r_prelude",.ofString "v_1",.ofString "v_2",.ofString "among_var",.ofString "a_0",.ofString "lab0",.ofString "v_3",.ofString "Y",.ofString "v_4",.ofString "v_5",.ofString "v_6"]
noncomputable def sL6:List Str:=[.ofString "lab2",.ofString "v_7",.ofString "lab3",.ofString "lab1",.ofString "r_mark_regions",.ofString "I_x",.ofString "r_postlude",.ofString "a_1",.ofString "r_R1",.ofString "r_R2",.ofString "r_undouble",.ofString "a_2",.ofString "r_e_ending",.ofString "r_en_ending",.ofString "gem",.ofString "r_standard_suffix"]
noncomputable def sL7:List Str:=[.ofString "a_3",.ofString "heid",.ofString "en",.ofString "a_4",.ofString "ig",.ofString "a_5",.ofString "á",.ofString "ä",.ofString "é",.ofString "ë",.ofString "í",.ofString "ï",.ofString "ó",.ofString "ö",.ofString "ú",.ofString "ü"]
noncomputable def sL8:List Str:=[.ofString "dd",.ofString "kk",.ofString "tt",.ofString "ene",.ofString "se",.ofString "heden",.ofString "end",.ofString "ing",.ofString "lijk",.ofString "baar",.ofString "bar",.ofString "aa",.ofString "ee",.ofString "oo",.ofString "uu",.ofString "Exception"]
noncomputable def sL9:List Str:=[.ofString "law_ip0004_01",.ofString "_law_signs",.ofString "enatirdoslgvhkmubpwjzcfxyqèáäéëíïóöúüIYAÉê'-",.ofString "_law_pieces",.ofString "be",.ofString "werk",.ofString "loop",.ofString "kind",.ofString "ge",.ofString "̈",.ofString "uur",.ofString "aaie",.ofString "aaye",.ofString "ijs",.ofString "ver",.ofString "ont"]
noncomputable def sL10:List Str:=[.ofString "aan",.ofString "eer",.ofString "oop",.ofString "dden",.ofString "kking",.ofString "tte",.ofString "lijke",.ofString "bare",.ofString "eig",.ofString "igend",.ofString "eiging",.ofString "elijk",.ofString "enheid",.ofString "cheid",.ofString "gemen",.ofString "_law_bare"]
noncomputable def sL11:List Str:=[.ofString "_law_vowels",.ofString "_law_word",.ofString "numbers",.ofString "most",.ofString "number",.ofString "piece",.ofString "_law_marked",.ofString "sign",.ofString "marked",.ofString "place",.ofString "behind",.ofString "before",.ofString "append",.ofString "join",.ofString "_law_regions",.ofString "borders"]
noncomputable def sL12:List Str:=[.ofString "first",.ofString "max",.ofString "second",.ofString "_law_ending",.ofString "ends",.ofString "found",.ofString "_law_shut",.ofString "stem",.ofString "signs",.ofString "_law_single",.ofString "_law_less_en",.ofString "_law_less_e",.ofString "_law_stem",.ofString "shorter",.ofString "root",.ofString "size"]
noncomputable def sL13:List Str:=[.ofString "law",.ofString "script",.ofString "third",.ofString "stemmer",.ofString "/claim/cut.py"]
noncomputable def sM0:List (List Str):=[sL0,sL1,sL2,sL3]
noncomputable def sM1:List (List Str):=[sL4,sL5,sL6,sL7]
noncomputable def sM2:List (List Str):=[sL8,sL9,sL10,sL11]
noncomputable def sM3:List (List Str):=[sL12,sL13]
noncomputable def sN:List (List (List Str)):=[sM0,sM1,sM2,sM3]
noncomputable def nth0 {α:Type} [Inhabited α]:List α→Nat→α
  | [],_=>default
  | a :: _,0=>a
  | _ :: r,n+1=>nth0 r n
noncomputable def sA (l:List (List (List Str))) (i j k:Nat):Str:=nth0 (nth0 (nth0 l i) j) k
theorem a0:Str.ofString "_wall" = sA sN 0 0 0:=rfl
theorem a1:Str.ofString "k" = sA sN 0 0 1:=rfl
theorem a2:Str.ofString "__name__" = sA sN 0 0 2:=rfl
theorem a3:Str.ofString "snowballstemmer.basestemmer" = sA sN 0 0 3:=rfl
theorem a4:Str.ofString "BaseStemmer" = sA sN 0 0 4:=rfl
theorem a5:Str.ofString "__init__" = sA sN 0 0 5:=rfl
theorem a6:Str.ofString "self" = sA sN 0 0 6:=rfl
theorem a7:Str.ofString "set_current" = sA sN 0 0 7:=rfl
theorem a8:Str.ofString "" = sA sN 0 0 8:=rfl
theorem a9:Str.ofString "value" = sA sN 0 0 9:=rfl
theorem a10:Str.ofString "current" = sA sN 0 0 10:=rfl
theorem a11:Str.ofString "cursor" = sA sN 0 0 11:=rfl
theorem a12:Str.ofString "limit" = sA sN 0 0 12:=rfl
theorem a13:Str.ofString "len" = sA sN 0 0 13:=rfl
theorem a14:Str.ofString "limit_backward" = sA sN 0 0 14:=rfl
theorem a15:Str.ofString "bra" = sA sN 0 0 15:=rfl
theorem a16:Str.ofString "ket" = sA sN 0 1 0:=rfl
theorem a17:Str.ofString "get_current" = sA sN 0 1 1:=rfl
theorem a18:Str.ofString "copy_from" = sA sN 0 1 2:=rfl
theorem a19:Str.ofString "other" = sA sN 0 1 3:=rfl
theorem a20:Str.ofString "in_grouping" = sA sN 0 1 4:=rfl
theorem a21:Str.ofString "s" = sA sN 0 1 5:=rfl
theorem a22:Str.ofString "go_in_grouping" = sA sN 0 1 6:=rfl
theorem a23:Str.ofString "in_grouping_b" = sA sN 0 1 7:=rfl
theorem a24:Str.ofString "go_in_grouping_b" = sA sN 0 1 8:=rfl
theorem a25:Str.ofString "out_grouping" = sA sN 0 1 9:=rfl
theorem a26:Str.ofString "go_out_grouping" = sA sN 0 1 10:=rfl
theorem a27:Str.ofString "out_grouping_b" = sA sN 0 1 11:=rfl
theorem a28:Str.ofString "go_out_grouping_b" = sA sN 0 1 12:=rfl
theorem a29:Str.ofString "eq_s" = sA sN 0 1 13:=rfl
theorem a30:Str.ofString "eq_s_b" = sA sN 0 1 14:=rfl
theorem a31:Str.ofString "endswith" = sA sN 0 1 15:=rfl
theorem a32:Str.ofString "find_among" = sA sN 0 2 0:=rfl
theorem a33:Str.ofString "v" = sA sN 0 2 1:=rfl
theorem a34:Str.ofString "i" = sA sN 0 2 2:=rfl
theorem a35:Str.ofString "j" = sA sN 0 2 3:=rfl
theorem a36:Str.ofString "c" = sA sN 0 2 4:=rfl
theorem a37:Str.ofString "l" = sA sN 0 2 5:=rfl
theorem a38:Str.ofString "common_i" = sA sN 0 2 6:=rfl
theorem a39:Str.ofString "common_j" = sA sN 0 2 7:=rfl
theorem a40:Str.ofString "first_key_inspected" = sA sN 0 2 8:=rfl
theorem a41:Str.ofString "diff" = sA sN 0 2 9:=rfl
theorem a42:Str.ofString "common" = sA sN 0 2 10:=rfl
theorem a43:Str.ofString "min" = sA sN 0 2 11:=rfl
theorem a44:Str.ofString "w" = sA sN 0 2 12:=rfl
theorem a45:Str.ofString "i2" = sA sN 0 2 13:=rfl
theorem a46:Str.ofString "range" = sA sN 0 2 14:=rfl
theorem a47:Str.ofString "ord" = sA sN 0 2 15:=rfl
theorem a48:Str.ofString "result" = sA sN 0 3 0:=rfl
theorem a49:Str.ofString "substring_i" = sA sN 0 3 1:=rfl
theorem a50:Str.ofString "find_among_b" = sA sN 0 3 2:=rfl
theorem a51:Str.ofString "lb" = sA sN 0 3 3:=rfl
theorem a52:Str.ofString "replace_s" = sA sN 0 3 4:=rfl
theorem a53:Str.ofString "c_bra" = sA sN 0 3 5:=rfl
theorem a54:Str.ofString "c_ket" = sA sN 0 3 6:=rfl
theorem a55:Str.ofString "adjustment" = sA sN 0 3 7:=rfl
theorem a56:Str.ofString "slice_from" = sA sN 0 3 8:=rfl
theorem a57:Str.ofString "slice_del" = sA sN 0 3 9:=rfl
theorem a58:Str.ofString "insert" = sA sN 0 3 10:=rfl
theorem a59:Str.ofString "slice_to" = sA sN 0 3 11:=rfl
theorem a60:Str.ofString "assign_to" = sA sN 0 3 12:=rfl
theorem a61:Str.ofString "stemWord" = sA sN 0 3 13:=rfl
theorem a62:Str.ofString "word" = sA sN 0 3 14:=rfl
theorem a63:Str.ofString "_stem" = sA sN 0 3 15:=rfl
theorem a64:Str.ofString "stemWords" = sA sN 1 0 0:=rfl
theorem a65:Str.ofString "words" = sA sN 1 0 1:=rfl
theorem a66:Str.ofString ".0" = sA sN 1 0 2:=rfl
theorem a67:Str.ofString "fast" = sA sN 1 0 3:=rfl
theorem a68:Str.ofString "snowballstemmer.among" = sA sN 1 0 4:=rfl
theorem a69:Str.ofString "Among" = sA sN 1 0 5:=rfl
theorem a70:Str.ofString "snowballstemmer.dutch_porter_stemmer" = sA sN 1 0 6:=rfl
theorem a71:Str.ofString "DutchPorterStemmer" = sA sN 1 0 7:=rfl
theorem a72:Str.ofString "g_v" = sA sN 1 0 8:=rfl
theorem a73:Str.ofString "a" = sA sN 1 0 9:=rfl
theorem a74:Str.ofString "e" = sA sN 1 0 10:=rfl
theorem a75:Str.ofString "o" = sA sN 1 0 11:=rfl
theorem a76:Str.ofString "u" = sA sN 1 0 12:=rfl
theorem a77:Str.ofString "y" = sA sN 1 0 13:=rfl
theorem a78:Str.ofString "è" = sA sN 1 0 14:=rfl
theorem a79:Str.ofString "g_v_I" = sA sN 1 0 15:=rfl
theorem a80:Str.ofString "I" = sA sN 1 1 0:=rfl
theorem a81:Str.ofString "g_v_j" = sA sN 1 1 1:=rfl
theorem a82:Str.ofString "I_p2" = sA sN 1 1 2:=rfl
theorem a83:Str.ofString "I_p1" = sA sN 1 1 3:=rfl
theorem a84:Str.ofString "B_e_found" = sA sN 1 1 4:=rfl
theorem a85:Str.ofString "r_prelude" = sA sN 1 1 5:=rfl
theorem a86:Str.ofString "v_1" = sA sN 1 1 6:=rfl
theorem a87:Str.ofString "v_2" = sA sN 1 1 7:=rfl
theorem a88:Str.ofString "among_var" = sA sN 1 1 8:=rfl
theorem a89:Str.ofString "a_0" = sA sN 1 1 9:=rfl
theorem a90:Str.ofString "lab0" = sA sN 1 1 10:=rfl
theorem a91:Str.ofString "v_3" = sA sN 1 1 11:=rfl
theorem a92:Str.ofString "Y" = sA sN 1 1 12:=rfl
theorem a93:Str.ofString "v_4" = sA sN 1 1 13:=rfl
theorem a94:Str.ofString "v_5" = sA sN 1 1 14:=rfl
theorem a95:Str.ofString "v_6" = sA sN 1 1 15:=rfl
theorem a96:Str.ofString "lab2" = sA sN 1 2 0:=rfl
theorem a97:Str.ofString "v_7" = sA sN 1 2 1:=rfl
theorem a98:Str.ofString "lab3" = sA sN 1 2 2:=rfl
theorem a99:Str.ofString "lab1" = sA sN 1 2 3:=rfl
theorem a100:Str.ofString "r_mark_regions" = sA sN 1 2 4:=rfl
theorem a101:Str.ofString "I_x" = sA sN 1 2 5:=rfl
theorem a102:Str.ofString "r_postlude" = sA sN 1 2 6:=rfl
theorem a103:Str.ofString "a_1" = sA sN 1 2 7:=rfl
theorem a104:Str.ofString "r_R1" = sA sN 1 2 8:=rfl
theorem a105:Str.ofString "r_R2" = sA sN 1 2 9:=rfl
theorem a106:Str.ofString "r_undouble" = sA sN 1 2 10:=rfl
theorem a107:Str.ofString "a_2" = sA sN 1 2 11:=rfl
theorem a108:Str.ofString "r_e_ending" = sA sN 1 2 12:=rfl
theorem a109:Str.ofString "r_en_ending" = sA sN 1 2 13:=rfl
theorem a110:Str.ofString "gem" = sA sN 1 2 14:=rfl
theorem a111:Str.ofString "r_standard_suffix" = sA sN 1 2 15:=rfl
theorem a112:Str.ofString "a_3" = sA sN 1 3 0:=rfl
theorem a113:Str.ofString "heid" = sA sN 1 3 1:=rfl
theorem a114:Str.ofString "en" = sA sN 1 3 2:=rfl
theorem a115:Str.ofString "a_4" = sA sN 1 3 3:=rfl
theorem a116:Str.ofString "ig" = sA sN 1 3 4:=rfl
theorem a117:Str.ofString "a_5" = sA sN 1 3 5:=rfl
theorem a118:Str.ofString "á" = sA sN 1 3 6:=rfl
theorem a119:Str.ofString "ä" = sA sN 1 3 7:=rfl
theorem a120:Str.ofString "é" = sA sN 1 3 8:=rfl
theorem a121:Str.ofString "ë" = sA sN 1 3 9:=rfl
theorem a122:Str.ofString "í" = sA sN 1 3 10:=rfl
theorem a123:Str.ofString "ï" = sA sN 1 3 11:=rfl
theorem a124:Str.ofString "ó" = sA sN 1 3 12:=rfl
theorem a125:Str.ofString "ö" = sA sN 1 3 13:=rfl
theorem a126:Str.ofString "ú" = sA sN 1 3 14:=rfl
theorem a127:Str.ofString "ü" = sA sN 1 3 15:=rfl
theorem a128:Str.ofString "dd" = sA sN 2 0 0:=rfl
theorem a129:Str.ofString "kk" = sA sN 2 0 1:=rfl
theorem a130:Str.ofString "tt" = sA sN 2 0 2:=rfl
theorem a131:Str.ofString "ene" = sA sN 2 0 3:=rfl
theorem a132:Str.ofString "se" = sA sN 2 0 4:=rfl
theorem a133:Str.ofString "heden" = sA sN 2 0 5:=rfl
theorem a134:Str.ofString "end" = sA sN 2 0 6:=rfl
theorem a135:Str.ofString "ing" = sA sN 2 0 7:=rfl
theorem a136:Str.ofString "lijk" = sA sN 2 0 8:=rfl
theorem a137:Str.ofString "baar" = sA sN 2 0 9:=rfl
theorem a138:Str.ofString "bar" = sA sN 2 0 10:=rfl
theorem a139:Str.ofString "aa" = sA sN 2 0 11:=rfl
theorem a140:Str.ofString "ee" = sA sN 2 0 12:=rfl
theorem a141:Str.ofString "oo" = sA sN 2 0 13:=rfl
theorem a142:Str.ofString "uu" = sA sN 2 0 14:=rfl
theorem a143:Str.ofString "Exception" = sA sN 2 0 15:=rfl
theorem a144:Str.ofString "law_ip0004_01" = sA sN 2 1 0:=rfl
theorem a145:Str.ofString "_law_signs" = sA sN 2 1 1:=rfl
theorem a146:Str.ofString "enatirdoslgvhkmubpwjzcfxyqèáäéëíïóöúüIYAÉê'-" = sA sN 2 1 2:=rfl
theorem a147:Str.ofString "_law_pieces" = sA sN 2 1 3:=rfl
theorem a148:Str.ofString "be" = sA sN 2 1 4:=rfl
theorem a149:Str.ofString "werk" = sA sN 2 1 5:=rfl
theorem a150:Str.ofString "loop" = sA sN 2 1 6:=rfl
theorem a151:Str.ofString "kind" = sA sN 2 1 7:=rfl
theorem a152:Str.ofString "ge" = sA sN 2 1 8:=rfl
theorem a153:Str.ofString "̈" = sA sN 2 1 9:=rfl
theorem a154:Str.ofString "uur" = sA sN 2 1 10:=rfl
theorem a155:Str.ofString "aaie" = sA sN 2 1 11:=rfl
theorem a156:Str.ofString "aaye" = sA sN 2 1 12:=rfl
theorem a157:Str.ofString "ijs" = sA sN 2 1 13:=rfl
theorem a158:Str.ofString "ver" = sA sN 2 1 14:=rfl
theorem a159:Str.ofString "ont" = sA sN 2 1 15:=rfl
theorem a160:Str.ofString "aan" = sA sN 2 2 0:=rfl
theorem a161:Str.ofString "eer" = sA sN 2 2 1:=rfl
theorem a162:Str.ofString "oop" = sA sN 2 2 2:=rfl
theorem a163:Str.ofString "dden" = sA sN 2 2 3:=rfl
theorem a164:Str.ofString "kking" = sA sN 2 2 4:=rfl
theorem a165:Str.ofString "tte" = sA sN 2 2 5:=rfl
theorem a166:Str.ofString "lijke" = sA sN 2 2 6:=rfl
theorem a167:Str.ofString "bare" = sA sN 2 2 7:=rfl
theorem a168:Str.ofString "eig" = sA sN 2 2 8:=rfl
theorem a169:Str.ofString "igend" = sA sN 2 2 9:=rfl
theorem a170:Str.ofString "eiging" = sA sN 2 2 10:=rfl
theorem a171:Str.ofString "elijk" = sA sN 2 2 11:=rfl
theorem a172:Str.ofString "enheid" = sA sN 2 2 12:=rfl
theorem a173:Str.ofString "cheid" = sA sN 2 2 13:=rfl
theorem a174:Str.ofString "gemen" = sA sN 2 2 14:=rfl
theorem a175:Str.ofString "_law_bare" = sA sN 2 2 15:=rfl
theorem a176:Str.ofString "_law_vowels" = sA sN 2 3 0:=rfl
theorem a177:Str.ofString "_law_word" = sA sN 2 3 1:=rfl
theorem a178:Str.ofString "numbers" = sA sN 2 3 2:=rfl
theorem a179:Str.ofString "most" = sA sN 2 3 3:=rfl
theorem a180:Str.ofString "number" = sA sN 2 3 4:=rfl
theorem a181:Str.ofString "piece" = sA sN 2 3 5:=rfl
theorem a182:Str.ofString "_law_marked" = sA sN 2 3 6:=rfl
theorem a183:Str.ofString "sign" = sA sN 2 3 7:=rfl
theorem a184:Str.ofString "marked" = sA sN 2 3 8:=rfl
theorem a185:Str.ofString "place" = sA sN 2 3 9:=rfl
theorem a186:Str.ofString "behind" = sA sN 2 3 10:=rfl
theorem a187:Str.ofString "before" = sA sN 2 3 11:=rfl
theorem a188:Str.ofString "append" = sA sN 2 3 12:=rfl
theorem a189:Str.ofString "join" = sA sN 2 3 13:=rfl
theorem a190:Str.ofString "_law_regions" = sA sN 2 3 14:=rfl
theorem a191:Str.ofString "borders" = sA sN 2 3 15:=rfl
theorem a192:Str.ofString "first" = sA sN 3 0 0:=rfl
theorem a193:Str.ofString "max" = sA sN 3 0 1:=rfl
theorem a194:Str.ofString "second" = sA sN 3 0 2:=rfl
theorem a195:Str.ofString "_law_ending" = sA sN 3 0 3:=rfl
theorem a196:Str.ofString "ends" = sA sN 3 0 4:=rfl
theorem a197:Str.ofString "found" = sA sN 3 0 5:=rfl
theorem a198:Str.ofString "_law_shut" = sA sN 3 0 6:=rfl
theorem a199:Str.ofString "stem" = sA sN 3 0 7:=rfl
theorem a200:Str.ofString "signs" = sA sN 3 0 8:=rfl
theorem a201:Str.ofString "_law_single" = sA sN 3 0 9:=rfl
theorem a202:Str.ofString "_law_less_en" = sA sN 3 0 10:=rfl
theorem a203:Str.ofString "_law_less_e" = sA sN 3 0 11:=rfl
theorem a204:Str.ofString "_law_stem" = sA sN 3 0 12:=rfl
theorem a205:Str.ofString "shorter" = sA sN 3 0 13:=rfl
theorem a206:Str.ofString "root" = sA sN 3 0 14:=rfl
theorem a207:Str.ofString "size" = sA sN 3 0 15:=rfl
theorem a208:Str.ofString "law" = sA sN 3 1 0:=rfl
theorem a209:Str.ofString "script" = sA sN 3 1 1:=rfl
theorem a210:Str.ofString "third" = sA sN 3 1 2:=rfl
theorem a211:Str.ofString "stemmer" = sA sN 3 1 3:=rfl
theorem a212:Str.ofString "/claim/cut.py" = sA sN 3 1 4:=rfl
inductive IsP (p:Program):Prop where
  | mk
noncomputable def val {p:Program} (_:IsP p):Program:=p
set_option maxHeartbeats 4000000 in
noncomputable def pC:Program:=by
  refine val (p:=?p) ?h
  case h=>
    have h:IsP PySem.Challenge.pw_ip0004_01:=.mk
    dsimp only [PySem.Challenge.pw_ip0004_01,a0,a1,a2,a3,a4,a5,a6,a7,a8,a9,a10,a11,a12,a13,a14,a15,a16,a17,a18,a19,a20,a21,a22,a23,a24,a25,a26,a27,a28,a29,a30,a31,a32,a33,a34,a35,a36,a37,a38,a39,a40,a41,a42,a43,a44,a45,a46,a47,a48,a49,a50,a51,a52,a53,a54,a55,a56,a57,a58,a59,a60,a61,a62,a63,a64,a65,a66,a67,a68,a69,a70,a71,a72,a73,a74,a75,a76,a77,a78,a79,a80,a81,a82,a83,a84,a85,a86,a87,a88,a89,a90,a91,a92,a93,a94,a95,a96,a97,a98,a99,a100,a101,a102,a103,a104,a105,a106,a107,a108,a109,a110,a111,a112,a113,a114,a115,a116,a117,a118,a119,a120,a121,a122,a123,a124,a125,a126,a127,a128,a129,a130,a131,a132,a133,a134,a135,a136,a137,a138,a139,a140,a141,a142,a143,a144,a145,a146,a147,a148,a149,a150,a151,a152,a153,a154,a155,a156,a157,a158,a159,a160,a161,a162,a163,a164,a165,a166,a167,a168,a169,a170,a171,a172,a173,a174,a175,a176,a177,a178,a179,a180,a181,a182,a183,a184,a185,a186,a187,a188,a189,a190,a191,a192,a193,a194,a195,a196,a197,a198,a199,a200,a201,a202,a203,a204,a205,a206,a207,a208,a209,a210,a211,a212] at h
    exact h
noncomputable abbrev Hd (_:Program):Type:=Program
noncomputable def hd (p:Program):Hd p:=p
@[elab_as_elim] noncomputable def apL {motive:List (List (List Str))→Type} (a:List (List (List Str))) (f:∀ l,motive l):motive a:=f a
set_option maxHeartbeats 4000000 in
noncomputable def pS:Program:=by
  change Hd pC
  dsimp only [pC,val]
  refine apL sN ?_
  intro l
  exact hd _
set_option maxHeartbeats 4000000 in
theorem pw_is:PySem.Challenge.pw_ip0004_01 = pS:=rfl
theorem pS_len:pS.main.body.length = 26:=by kernel_rfl!
end Mine
namespace Mine
noncomputable section
variable (P:Params)
noncomputable abbrev pw:Program:=pS
noncomputable def PW:List Stmt:=pw.main.body
noncomputable def at_ (l:List Stmt) (i:Nat):Stmt:=(l[i]?).getD (.Pass default)
noncomputable def bodyOf:Stmt→List Stmt
  | .ClassDef _ _ _ b _ _ _ _ _ _ _=>b
  | .FunctionDef _ _ b _ _ _ _ _ _ _=>b
  | _=>[]
noncomputable def scopeOf:Stmt→Scope
  | .ClassDef _ _ _ _ _ _ s _ _ _ _=>s
  | .FunctionDef _ _ _ _ _ _ s _ _ _=>s
  | _=>pw.main.scope
noncomputable def fnD (st:Stmt) (q:Str) (g:Addr) (pm cd:Value) (b:Addr):FuncData:=match st with
  | .FunctionDef n a body _ _ _ sc _ _ _=>{ name:=n,qualname:=q,params:=a,body:=.stmts body,scope:=sc,globals:=g,closure:=[],defaults:=.none,kwdefaults:=.none,pyModule:=pm,code:=cd,builtins:=b }
  | _=>default
noncomputable abbrev zI (i:Int):Value:=.int i 0
noncomputable abbrev yS (s:String) (t:Nat):Value:=.str (.ofString s) t
noncomputable abbrev eD (P:Params) (s:String) (t:Nat) (v:Value):DictEntry:=⟨PyData.keyHash P (.ofString s),.str (.ofString s) t,v⟩
noncomputable abbrev bN:=BT.node
noncomputable abbrev bZ:=BT.nil
noncomputable abbrev yM:Value:=yS "snowballstemmer.dutch_porter_stemmer" 471
noncomputable abbrev yP (n:Nat):Value:=yS "/claim/cut.py" n
noncomputable abbrev yL:Value:=yS "law_ip0004_01" 1174
noncomputable abbrev oT (l:List Value):Obj:=⟨(.type "tuple"),none,.seq l.toArray 0,[].toArray⟩
noncomputable abbrev oD (n:Nat) (l:List DictEntry):Obj:=⟨(.type "dict"),none,.dict l.toArray n,[].toArray⟩
noncomputable abbrev oK (n:Nat) (l:List DictEntry):Obj:=⟨(.type "frame"),none,.dict l.toArray n,[].toArray⟩
noncomputable abbrev oC (l:List Value):Obj:=⟨(.type "code"),none,.fields l.toArray,[].toArray⟩
noncomputable abbrev oF (l:List Value):Obj:=⟨.none,none,.fields l.toArray,[].toArray⟩
noncomputable abbrev oI (a:Addr):Obj:=⟨(.ref 218),(some a),.plain,[].toArray⟩
noncomputable abbrev oU (f:FuncData):Obj:=⟨(.type "function"),none,.func f,[].toArray⟩
noncomputable abbrev oV (f:FuncData):Obj:=⟨.none,none,.func f,[].toArray⟩
noncomputable abbrev fA (i:Nat):=fnD (at_ PW i)
noncomputable abbrev fB (i j:Nat):=fnD (at_ (bodyOf (at_ PW i)) j)
noncomputable abbrev ze0:=eD P "__name__" 165 (yS "snowballstemmer.basestemmer" 194)
noncomputable abbrev ze1:=eD P "__doc__" 166 .none
noncomputable abbrev ze2:=eD P "__package__" 167 .none
noncomputable abbrev ze3:=eD P "__loader__" 168 (.builtin "__main__.__loader__#opaque")
noncomputable abbrev ze4:=eD P "__spec__" 169 .none
noncomputable abbrev ze5:=eD P "__annotations__" 170 (.ref 6)
noncomputable abbrev ze6:=eD P "__builtins__" 171 (.ref 4)
noncomputable abbrev ze7:=eD P "__file__" 173 (yP 172)
noncomputable abbrev ze8:=eD P "__cached__" 174 .none
noncomputable abbrev ze9:=eD P "_wall" 193 (.ref 21)
noncomputable abbrev ze10:=eD P "BaseStemmer" 435 (.ref 197)
noncomputable abbrev ze11:=eD P "__module__" 203 (yS "snowballstemmer.basestemmer" 194)
noncomputable abbrev ze12:=eD P "__name__" 165 yM
noncomputable abbrev ze13:=eD P "Among" 470 (.ref 218)
noncomputable abbrev ze14:=eD P "__module__" 445 (yS "snowballstemmer.among" 436)
noncomputable abbrev ze15:=eD P "__module__" 480 yM
noncomputable abbrev ze16:=eD P "__qualname__" 482 (yS "DutchPorterStemmer" 481)
noncomputable abbrev ze17:=eD P "__firstlineno__" 484 (.int 210 483)
noncomputable abbrev ze18:=eD P "g_v" 499 (.ref 230)
noncomputable abbrev ze19:=eD P "g_v_I" 516 (.ref 231)
noncomputable abbrev ze20:=eD P "g_v_j" 533 (.ref 232)
noncomputable abbrev ze21:=eD P "I_p2" 535 (.int 0 534)
noncomputable abbrev ze22:=eD P "I_p1" 537 (.int 0 536)
noncomputable abbrev ze23:=eD P "B_e_found" 538 (.bool false)
noncomputable abbrev ze24:=eD P "r_prelude" 553 (.ref 239)
noncomputable abbrev ze25:=eD P "r_mark_regions" 562 (.ref 246)
noncomputable abbrev ze26:=eD P "r_postlude" 571 (.ref 253)
noncomputable abbrev ze27:=eD P "r_R1" 578 (.ref 260)
noncomputable abbrev ze28:=eD P "r_R2" 585 (.ref 267)
noncomputable abbrev ze29:=eD P "r_undouble" 593 (.ref 274)
noncomputable abbrev ze30:=eD P "r_e_ending" 601 (.ref 281)
noncomputable abbrev ze31:=eD P "r_en_ending" 609 (.ref 288)
noncomputable abbrev ze32:=eD P "r_standard_suffix" 624 (.ref 295)
noncomputable abbrev ze33:=eD P "_stem" 634 (.ref 302)
noncomputable abbrev ze34:=eD P "a_0" 779 (.ref 336)
noncomputable abbrev ze35:=eD P "a_1" 820 (.ref 346)
noncomputable abbrev ze36:=eD P "a_2" 866 (.ref 356)
noncomputable abbrev ze37:=eD P "a_3" 936 (.ref 372)
noncomputable abbrev ze38:=eD P "a_4" 1021 (.ref 391)
noncomputable abbrev ze39:=eD P "DutchPorterStemmer" 1093 (.ref 407)
noncomputable abbrev ze40:=eD P "type.__subclasses__.Exception.0" 1110 (zI 419)
noncomputable abbrev ze41:=eD P "type.__subclasses__.Exception.1" 1130 (zI 432)
noncomputable abbrev ze42:=eD P "lab0" 1113 (.ref 419)
noncomputable abbrev ze43:=eD P "lab1" 1133 (.ref 432)
noncomputable abbrev ze44:=eD P "lab2" 1153 (.ref 445)
noncomputable abbrev ze45:=eD P "lab3" 1173 (.ref 458)
noncomputable abbrev ze46:=eD P "_law_signs" 1177 (yS "enatirdoslgvhkmubpwjzcfxyqèáäéëíïóöúüIYAÉê'-" 1176)
noncomputable abbrev bL (x:Obj):BT:=.node x .nil .nil
noncomputable def st0:SetSt:=(#[],0,.fresh 0 0 (!P.followText "set-order"))
noncomputable def gS0:SetSt:=unledSt (addSt P (.ofString "è") 491 (addSt P (.ofString "y") 490 (addSt P (.ofString "u") 489 (addSt P (.ofString "o") 488 (addSt P (.ofString "i") 487 (addSt P (.ofString "e") 486 (addSt P (.ofString "a") 485 (st0 P))))))))
noncomputable def gO0:Obj:=SO (gS0 P)
noncomputable def gS1:SetSt:=unledSt (addSt P (.ofString "è") 507 (addSt P (.ofString "y") 506 (addSt P (.ofString "u") 505 (addSt P (.ofString "o") 504 (addSt P (.ofString "i") 503 (addSt P (.ofString "e") 502 (addSt P (.ofString "a") 501 (addSt P (.ofString "I") 500 (st0 P)))))))))
noncomputable def gO1:Obj:=SO (gS1 P)
noncomputable def gS2:SetSt:=unledSt (addSt P (.ofString "è") 524 (addSt P (.ofString "y") 523 (addSt P (.ofString "u") 522 (addSt P (.ofString "o") 521 (addSt P (.ofString "j") 520 (addSt P (.ofString "i") 519 (addSt P (.ofString "e") 518 (addSt P (.ofString "a") 517 (st0 P)))))))))
noncomputable def gO2:Obj:=SO (gS2 P)
noncomputable def q0 (P:Params):=oT []
noncomputable def zt0:=bL (q0 P)
noncomputable def q1 (P:Params):=oF []
noncomputable def zt1:=bL (q1 P)
noncomputable def zt5:=bN (q0 P) (zt1 P) bZ
noncomputable def zt35:=bN (q0 P) (zt1 P) (zt1 P)
noncomputable def q2 (P:Params):=oC [(yS "<module>" 182),(yS "<module>" 183),(yP 184),(zI 1),(zI 0),(zI 0),(zI 0),(zI 0),(.ref 11),(.bool false),(zI 181),(.ref 12),.none,.none,.none,.none,(zI 185),(zI 1),(yP 186)]
noncomputable def q3 (P:Params):Obj:=⟨(.type "frame"),none,.plain,[some (.ref 13),some (.ref 3),some (.ref 3),none,some (yS "__main__" 164),none,some (.ref 0)].toArray⟩
noncomputable def trS:BT:=(bN (boot_o_0 P) (bN (boot_o_1 P) (bN (boot_o_3 P) (bL (boot_o_7 P)) (zt0 P)) (bN (boot_o_5 P) (bL (boot_o_9 P)) (bL (q2 P)))) (bN (boot_o_2 P) (bN (boot_o_4 P) (bL (boot_o_8 P)) (zt1 P)) (bN (boot_o_6 P) (bL (boot_o_10 P)) (bL (q3 P)))))
noncomputable def q4:=oD 10 [ze0 P,ze1 P,ze2 P,ze3 P,ze4 P,ze5 P,ze6 P,ze7 P,ze8 P,ze9 P]
noncomputable def q5 (P:Params):=oF [(zI 1),(zI 0),(.ref 20)]
noncomputable def q8 (P:Params):=oT [(yS "k" 190)]
noncomputable def q10 (P:Params):=oV (fA 0 (.ofString "_wall") 0 .none .none 0)
noncomputable def q11 (P:Params):=oC [(yS "_wall" 187),(yS "_wall" 188),(yP 189),(zI 1),(zI 1),(zI 0),(zI 0),(zI 3),(.ref 15),(.bool true),(zI 181),(.ref 16),.none,(.ref 17),(.ref 18),(.ref 19),(zI 191),(zI 1),(yP 192)]
noncomputable def q12 (P:Params):=oU (fA 0 (.ofString "_wall") 3 (yS "__main__" 164) (.ref 20) 0)
noncomputable def trP0:BT:=(bN (boot_o_0 P) (bN (boot_o_1 P) (bN (q4 P) (bN (boot_o_7 P) (zt0 P) bZ) (bN (q0 P) (bL (q10 P)) bZ)) (bN (boot_o_5 P) (bN (boot_o_9 P) (bL (q8 P)) bZ) (bN (q2 P) (bL (q12 P)) bZ))) (bN (boot_o_2 P) (bN (boot_o_4 P) (bN (boot_o_8 P) (zt1 P) bZ) (bN (q5 P) (bL (q11 P)) bZ)) (bN (boot_o_6 P) (bN (boot_o_10 P) (zt0 P) bZ) (bL (q3 P)))))
noncomputable def q13:=oD 11 [ze0 P,ze1 P,ze2 P,ze3 P,ze4 P,ze5 P,ze6 P,ze7 P,ze8 P,ze9 P,ze10 P]
noncomputable def q14 (P:Params):=oF [(zI 1),(zI 0),(.ref 20),(zI 5),(zI 0),(.ref 27)]
noncomputable def q16 (P:Params):Obj:=⟨(.type "builtin_function_or_method"),none,.fields [(.builtin "type.__prepare__"),(.type "type")].toArray,[].toArray⟩
noncomputable def q17:=oD 28 [ze11 P,eD P "__qualname__" 205 (yS "BaseStemmer" 204),eD P "__firstlineno__" 207 (.int 5 206),eD P "__init__" 214 (.ref 35),eD P "set_current" 222 (.ref 42),eD P "get_current" 229 (.ref 49),eD P "copy_from" 237 (.ref 56),eD P "in_grouping" 245 (.ref 63),eD P "go_in_grouping" 253 (.ref 70),eD P "in_grouping_b" 261 (.ref 77),eD P "go_in_grouping_b" 269 (.ref 84),eD P "out_grouping" 277 (.ref 91),eD P "go_out_grouping" 285 (.ref 98),eD P "out_grouping_b" 293 (.ref 105),eD P "go_out_grouping_b" 301 (.ref 112),eD P "eq_s" 309 (.ref 119),eD P "eq_s_b" 317 (.ref 126),eD P "find_among" 337 (.ref 133),eD P "find_among_b" 357 (.ref 140),eD P "replace_s" 368 (.ref 147),eD P "slice_from" 376 (.ref 154),eD P "slice_del" 383 (.ref 161),eD P "insert" 393 (.ref 168),eD P "slice_to" 400 (.ref 175),eD P "assign_to" 407 (.ref 182),eD P "stemWord" 415 (.ref 189),eD P "stemWords" 421 (.ref 194),eD P "__static_attributes__" 428 (.ref 195)]
noncomputable def q19 (P:Params):=oF [(zI 7),(zI 4),(.ref 34),(zI 10),(zI 4),(.ref 41),(zI 18),(zI 4),(.ref 48),(zI 21),(zI 4),(.ref 55),(zI 24),(zI 4),(.ref 62),(zI 32),(zI 4),(.ref 69),(zI 39),(zI 4),(.ref 76),(zI 42),(zI 4),(.ref 83),(zI 45),(zI 4),(.ref 90),(zI 48),(zI 4),(.ref 97),(zI 55),(zI 4),(.ref 104),(zI 63),(zI 4),(.ref 111),(zI 66),(zI 4),(.ref 118),(zI 69),(zI 4),(.ref 125),(zI 75),(zI 4),(.ref 132),(zI 120),(zI 4),(.ref 139),(zI 165),(zI 4),(.ref 146),(zI 175),(zI 4),(.ref 153),(zI 183),(zI 4),(.ref 160),(zI 186),(zI 4),(.ref 167),(zI 189),(zI 4),(.ref 174),(zI 192),(zI 4),(.ref 181),(zI 195),(zI 4),(.ref 188),(zI 200),(zI 4),(.ref 193)]
noncomputable def q20 (P:Params):=oC [(yS "BaseStemmer" 198),(yS "BaseStemmer" 199),(yP 200),(zI 5),(zI 0),(zI 0),(zI 0),(zI 0),(.ref 25),(.bool false),(zI 181),(.ref 26),.none,.none,.none,.none,(zI 201),(zI 5),(yP 202)]
noncomputable def q21 (P:Params):Obj:=⟨(.type "frame"),none,.plain,[some (.ref 27),some (.ref 3),some (.ref 24),none,some (yS "snowballstemmer.basestemmer" 194),none,some (.ref 0)].toArray⟩
noncomputable def q24 (P:Params):=oT [(yS "self" 211)]
noncomputable def q26 (P:Params):=oV (fB 2 0 (.ofString "BaseStemmer.__init__") 0 .none .none 0)
noncomputable def q27 (P:Params):=oC [(yS "__init__" 208),(yS "BaseStemmer.__init__" 209),(yP 210),(zI 7),(zI 1),(zI 0),(zI 0),(zI 3),(.ref 29),(.bool true),(zI 181),(.ref 30),.none,(.ref 31),(.ref 32),(.ref 33),(zI 212),(zI 7),(yP 213)]
noncomputable def q28 (P:Params):=oU (fB 2 0 (.ofString "BaseStemmer.__init__") 3 (yS "snowballstemmer.basestemmer" 194) (.ref 34) 0)
noncomputable def q31 (P:Params):=oT [(yS "self" 218),(yS "value" 219)]
noncomputable def q33 (P:Params):=oV (fB 2 1 (.ofString "BaseStemmer.set_current") 0 .none .none 0)
noncomputable def q34 (P:Params):=oC [(yS "set_current" 215),(yS "BaseStemmer.set_current" 216),(yP 217),(zI 10),(zI 2),(zI 0),(zI 0),(zI 3),(.ref 36),(.bool true),(zI 181),(.ref 37),.none,(.ref 38),(.ref 39),(.ref 40),(zI 220),(zI 10),(yP 221)]
noncomputable def q35 (P:Params):=oU (fB 2 1 (.ofString "BaseStemmer.set_current") 3 (yS "snowballstemmer.basestemmer" 194) (.ref 41) 0)
noncomputable def q38 (P:Params):=oT [(yS "self" 226)]
noncomputable def q40 (P:Params):=oV (fB 2 2 (.ofString "BaseStemmer.get_current") 0 .none .none 0)
noncomputable def q41 (P:Params):=oC [(yS "get_current" 223),(yS "BaseStemmer.get_current" 224),(yP 225),(zI 18),(zI 1),(zI 0),(zI 0),(zI 3),(.ref 43),(.bool true),(zI 181),(.ref 44),.none,(.ref 45),(.ref 46),(.ref 47),(zI 227),(zI 18),(yP 228)]
noncomputable def q42 (P:Params):=oU (fB 2 2 (.ofString "BaseStemmer.get_current") 3 (yS "snowballstemmer.basestemmer" 194) (.ref 48) 0)
noncomputable def q45 (P:Params):=oT [(yS "self" 233),(yS "other" 234)]
noncomputable def q47 (P:Params):=oV (fB 2 3 (.ofString "BaseStemmer.copy_from") 0 .none .none 0)
noncomputable def q48 (P:Params):=oC [(yS "copy_from" 230),(yS "BaseStemmer.copy_from" 231),(yP 232),(zI 21),(zI 2),(zI 0),(zI 0),(zI 3),(.ref 50),(.bool true),(zI 181),(.ref 51),.none,(.ref 52),(.ref 53),(.ref 54),(zI 235),(zI 21),(yP 236)]
noncomputable def q49 (P:Params):=oU (fB 2 3 (.ofString "BaseStemmer.copy_from") 3 (yS "snowballstemmer.basestemmer" 194) (.ref 55) 0)
noncomputable def q52 (P:Params):=oT [(yS "self" 241),(yS "s" 242)]
noncomputable def q54 (P:Params):=oV (fB 2 4 (.ofString "BaseStemmer.in_grouping") 0 .none .none 0)
noncomputable def q55 (P:Params):=oC [(yS "in_grouping" 238),(yS "BaseStemmer.in_grouping" 239),(yP 240),(zI 24),(zI 2),(zI 0),(zI 0),(zI 3),(.ref 57),(.bool true),(zI 181),(.ref 58),.none,(.ref 59),(.ref 60),(.ref 61),(zI 243),(zI 24),(yP 244)]
noncomputable def q56 (P:Params):=oU (fB 2 4 (.ofString "BaseStemmer.in_grouping") 3 (yS "snowballstemmer.basestemmer" 194) (.ref 62) 0)
noncomputable def q59 (P:Params):=oT [(yS "self" 249),(yS "s" 250)]
noncomputable def q61 (P:Params):=oV (fB 2 5 (.ofString "BaseStemmer.go_in_grouping") 0 .none .none 0)
noncomputable def q62 (P:Params):=oC [(yS "go_in_grouping" 246),(yS "BaseStemmer.go_in_grouping" 247),(yP 248),(zI 32),(zI 2),(zI 0),(zI 0),(zI 3),(.ref 64),(.bool true),(zI 181),(.ref 65),.none,(.ref 66),(.ref 67),(.ref 68),(zI 251),(zI 32),(yP 252)]
noncomputable def q63 (P:Params):=oU (fB 2 5 (.ofString "BaseStemmer.go_in_grouping") 3 (yS "snowballstemmer.basestemmer" 194) (.ref 69) 0)
noncomputable def q66 (P:Params):=oT [(yS "self" 257),(yS "s" 258)]
noncomputable def q68 (P:Params):=oV (fB 2 6 (.ofString "BaseStemmer.in_grouping_b") 0 .none .none 0)
noncomputable def q69 (P:Params):=oC [(yS "in_grouping_b" 254),(yS "BaseStemmer.in_grouping_b" 255),(yP 256),(zI 39),(zI 2),(zI 0),(zI 0),(zI 3),(.ref 71),(.bool true),(zI 181),(.ref 72),.none,(.ref 73),(.ref 74),(.ref 75),(zI 259),(zI 39),(yP 260)]
noncomputable def q70 (P:Params):=oU (fB 2 6 (.ofString "BaseStemmer.in_grouping_b") 3 (yS "snowballstemmer.basestemmer" 194) (.ref 76) 0)
noncomputable def q73 (P:Params):=oT [(yS "self" 265),(yS "s" 266)]
noncomputable def q75 (P:Params):=oV (fB 2 7 (.ofString "BaseStemmer.go_in_grouping_b") 0 .none .none 0)
noncomputable def q76 (P:Params):=oC [(yS "go_in_grouping_b" 262),(yS "BaseStemmer.go_in_grouping_b" 263),(yP 264),(zI 42),(zI 2),(zI 0),(zI 0),(zI 3),(.ref 78),(.bool true),(zI 181),(.ref 79),.none,(.ref 80),(.ref 81),(.ref 82),(zI 267),(zI 42),(yP 268)]
noncomputable def q77 (P:Params):=oU (fB 2 7 (.ofString "BaseStemmer.go_in_grouping_b") 3 (yS "snowballstemmer.basestemmer" 194) (.ref 83) 0)
noncomputable def q80 (P:Params):=oT [(yS "self" 273),(yS "s" 274)]
noncomputable def q82 (P:Params):=oV (fB 2 8 (.ofString "BaseStemmer.out_grouping") 0 .none .none 0)
noncomputable def q83 (P:Params):=oC [(yS "out_grouping" 270),(yS "BaseStemmer.out_grouping" 271),(yP 272),(zI 45),(zI 2),(zI 0),(zI 0),(zI 3),(.ref 85),(.bool true),(zI 181),(.ref 86),.none,(.ref 87),(.ref 88),(.ref 89),(zI 275),(zI 45),(yP 276)]
noncomputable def q84 (P:Params):=oU (fB 2 8 (.ofString "BaseStemmer.out_grouping") 3 (yS "snowballstemmer.basestemmer" 194) (.ref 90) 0)
noncomputable def q87 (P:Params):=oT [(yS "self" 281),(yS "s" 282)]
noncomputable def q89 (P:Params):=oV (fB 2 9 (.ofString "BaseStemmer.go_out_grouping") 0 .none .none 0)
noncomputable def q90 (P:Params):=oC [(yS "go_out_grouping" 278),(yS "BaseStemmer.go_out_grouping" 279),(yP 280),(zI 48),(zI 2),(zI 0),(zI 0),(zI 3),(.ref 92),(.bool true),(zI 181),(.ref 93),.none,(.ref 94),(.ref 95),(.ref 96),(zI 283),(zI 48),(yP 284)]
noncomputable def q91 (P:Params):=oU (fB 2 9 (.ofString "BaseStemmer.go_out_grouping") 3 (yS "snowballstemmer.basestemmer" 194) (.ref 97) 0)
noncomputable def q94 (P:Params):=oT [(yS "self" 289),(yS "s" 290)]
noncomputable def q96 (P:Params):=oV (fB 2 10 (.ofString "BaseStemmer.out_grouping_b") 0 .none .none 0)
noncomputable def q97 (P:Params):=oC [(yS "out_grouping_b" 286),(yS "BaseStemmer.out_grouping_b" 287),(yP 288),(zI 55),(zI 2),(zI 0),(zI 0),(zI 3),(.ref 99),(.bool true),(zI 181),(.ref 100),.none,(.ref 101),(.ref 102),(.ref 103),(zI 291),(zI 55),(yP 292)]
noncomputable def q98 (P:Params):=oU (fB 2 10 (.ofString "BaseStemmer.out_grouping_b") 3 (yS "snowballstemmer.basestemmer" 194) (.ref 104) 0)
noncomputable def q101 (P:Params):=oT [(yS "self" 297),(yS "s" 298)]
noncomputable def q103 (P:Params):=oV (fB 2 11 (.ofString "BaseStemmer.go_out_grouping_b") 0 .none .none 0)
noncomputable def q104 (P:Params):=oC [(yS "go_out_grouping_b" 294),(yS "BaseStemmer.go_out_grouping_b" 295),(yP 296),(zI 63),(zI 2),(zI 0),(zI 0),(zI 3),(.ref 106),(.bool true),(zI 181),(.ref 107),.none,(.ref 108),(.ref 109),(.ref 110),(zI 299),(zI 63),(yP 300)]
noncomputable def q105 (P:Params):=oU (fB 2 11 (.ofString "BaseStemmer.go_out_grouping_b") 3 (yS "snowballstemmer.basestemmer" 194) (.ref 111) 0)
noncomputable def q108 (P:Params):=oT [(yS "self" 305),(yS "s" 306)]
noncomputable def q110 (P:Params):=oV (fB 2 12 (.ofString "BaseStemmer.eq_s") 0 .none .none 0)
noncomputable def q111 (P:Params):=oC [(yS "eq_s" 302),(yS "BaseStemmer.eq_s" 303),(yP 304),(zI 66),(zI 2),(zI 0),(zI 0),(zI 3),(.ref 113),(.bool true),(zI 181),(.ref 114),.none,(.ref 115),(.ref 116),(.ref 117),(zI 307),(zI 66),(yP 308)]
noncomputable def q112 (P:Params):=oU (fB 2 12 (.ofString "BaseStemmer.eq_s") 3 (yS "snowballstemmer.basestemmer" 194) (.ref 118) 0)
noncomputable def q115 (P:Params):=oT [(yS "self" 313),(yS "s" 314)]
noncomputable def q117 (P:Params):=oV (fB 2 13 (.ofString "BaseStemmer.eq_s_b") 0 .none .none 0)
noncomputable def q118 (P:Params):=oC [(yS "eq_s_b" 310),(yS "BaseStemmer.eq_s_b" 311),(yP 312),(zI 69),(zI 2),(zI 0),(zI 0),(zI 3),(.ref 120),(.bool true),(zI 181),(.ref 121),.none,(.ref 122),(.ref 123),(.ref 124),(zI 315),(zI 69),(yP 316)]
noncomputable def q119 (P:Params):=oU (fB 2 13 (.ofString "BaseStemmer.eq_s_b") 3 (yS "snowballstemmer.basestemmer" 194) (.ref 125) 0)
noncomputable def q122 (P:Params):=oT [(yS "self" 321),(yS "v" 322),(yS "i" 323),(yS "j" 324),(yS "c" 325),(yS "l" 326),(yS "common_i" 327),(yS "common_j" 328),(yS "first_key_inspected" 329),(yS "k" 330),(yS "diff" 331),(yS "common" 332),(yS "w" 333),(yS "i2" 334)]
noncomputable def q124 (P:Params):=oV (fB 2 14 (.ofString "BaseStemmer.find_among") 0 .none .none 0)
noncomputable def q125 (P:Params):=oC [(yS "find_among" 318),(yS "BaseStemmer.find_among" 319),(yP 320),(zI 75),(zI 2),(zI 0),(zI 0),(zI 3),(.ref 127),(.bool true),(zI 181),(.ref 128),.none,(.ref 129),(.ref 130),(.ref 131),(zI 335),(zI 75),(yP 336)]
noncomputable def q126 (P:Params):=oU (fB 2 14 (.ofString "BaseStemmer.find_among") 3 (yS "snowballstemmer.basestemmer" 194) (.ref 132) 0)
noncomputable def q129 (P:Params):=oT [(yS "self" 341),(yS "v" 342),(yS "i" 343),(yS "j" 344),(yS "c" 345),(yS "lb" 346),(yS "common_i" 347),(yS "common_j" 348),(yS "first_key_inspected" 349),(yS "k" 350),(yS "diff" 351),(yS "common" 352),(yS "w" 353),(yS "i2" 354)]
noncomputable def q131 (P:Params):=oV (fB 2 15 (.ofString "BaseStemmer.find_among_b") 0 .none .none 0)
noncomputable def q132 (P:Params):=oC [(yS "find_among_b" 338),(yS "BaseStemmer.find_among_b" 339),(yP 340),(zI 120),(zI 2),(zI 0),(zI 0),(zI 3),(.ref 134),(.bool true),(zI 181),(.ref 135),.none,(.ref 136),(.ref 137),(.ref 138),(zI 355),(zI 120),(yP 356)]
noncomputable def q133 (P:Params):=oU (fB 2 15 (.ofString "BaseStemmer.find_among_b") 3 (yS "snowballstemmer.basestemmer" 194) (.ref 139) 0)
noncomputable def q136 (P:Params):=oT [(yS "self" 361),(yS "c_bra" 362),(yS "c_ket" 363),(yS "s" 364),(yS "adjustment" 365)]
noncomputable def q138 (P:Params):=oV (fB 2 16 (.ofString "BaseStemmer.replace_s") 0 .none .none 0)
noncomputable def zt21:=bN (q42 P) (bN (q0 P) (bL (q138 P)) (zt0 P)) (zt5 P)
noncomputable def q139 (P:Params):=oC [(yS "replace_s" 358),(yS "BaseStemmer.replace_s" 359),(yP 360),(zI 165),(zI 4),(zI 0),(zI 0),(zI 3),(.ref 141),(.bool true),(zI 181),(.ref 142),.none,(.ref 143),(.ref 144),(.ref 145),(zI 366),(zI 165),(yP 367)]
noncomputable def q140 (P:Params):=oU (fB 2 16 (.ofString "BaseStemmer.replace_s") 3 (yS "snowballstemmer.basestemmer" 194) (.ref 146) 0)
noncomputable def q143 (P:Params):=oT [(yS "self" 372),(yS "s" 373)]
noncomputable def q145 (P:Params):=oV (fB 2 17 (.ofString "BaseStemmer.slice_from") 0 .none .none 0)
noncomputable def q146 (P:Params):=oC [(yS "slice_from" 369),(yS "BaseStemmer.slice_from" 370),(yP 371),(zI 175),(zI 2),(zI 0),(zI 0),(zI 3),(.ref 148),(.bool true),(zI 181),(.ref 149),.none,(.ref 150),(.ref 151),(.ref 152),(zI 374),(zI 175),(yP 375)]
noncomputable def q147 (P:Params):=oU (fB 2 17 (.ofString "BaseStemmer.slice_from") 3 (yS "snowballstemmer.basestemmer" 194) (.ref 153) 0)
noncomputable def q150 (P:Params):=oT [(yS "self" 380)]
noncomputable def q152 (P:Params):=oV (fB 2 18 (.ofString "BaseStemmer.slice_del") 0 .none .none 0)
noncomputable def zt2:=bN (q24 P) (bN (q56 P) (zt0 P) (zt1 P)) (bN (q0 P) (bL (q152 P)) bZ)
noncomputable def q153 (P:Params):=oC [(yS "slice_del" 377),(yS "BaseStemmer.slice_del" 378),(yP 379),(zI 183),(zI 1),(zI 0),(zI 0),(zI 3),(.ref 155),(.bool true),(zI 181),(.ref 156),.none,(.ref 157),(.ref 158),(.ref 159),(zI 381),(zI 183),(yP 382)]
noncomputable def q154 (P:Params):=oU (fB 2 18 (.ofString "BaseStemmer.slice_del") 3 (yS "snowballstemmer.basestemmer" 194) (.ref 160) 0)
noncomputable def zt54:=bN (q154 P) (zt0 P) bZ
noncomputable def q157 (P:Params):=oT [(yS "self" 387),(yS "c_bra" 388),(yS "c_ket" 389),(yS "s" 390)]
noncomputable def q159 (P:Params):=oV (fB 2 19 (.ofString "BaseStemmer.insert") 0 .none .none 0)
noncomputable def q160 (P:Params):=oC [(yS "insert" 384),(yS "BaseStemmer.insert" 385),(yP 386),(zI 186),(zI 4),(zI 0),(zI 0),(zI 3),(.ref 162),(.bool true),(zI 181),(.ref 163),.none,(.ref 164),(.ref 165),(.ref 166),(zI 391),(zI 186),(yP 392)]
noncomputable def q161 (P:Params):=oU (fB 2 19 (.ofString "BaseStemmer.insert") 3 (yS "snowballstemmer.basestemmer" 194) (.ref 167) 0)
noncomputable def zt62:=bN (q97 P) (bN (q161 P) (zt0 P) bZ) (bL (gO2 P))
noncomputable def q164 (P:Params):=oT [(yS "self" 397)]
noncomputable def q166 (P:Params):=oV (fB 2 20 (.ofString "BaseStemmer.slice_to") 0 .none .none 0)
noncomputable def q167 (P:Params):=oC [(yS "slice_to" 394),(yS "BaseStemmer.slice_to" 395),(yP 396),(zI 189),(zI 1),(zI 0),(zI 0),(zI 3),(.ref 169),(.bool true),(zI 181),(.ref 170),.none,(.ref 171),(.ref 172),(.ref 173),(zI 398),(zI 189),(yP 399)]
noncomputable def q168 (P:Params):=oU (fB 2 20 (.ofString "BaseStemmer.slice_to") 3 (yS "snowballstemmer.basestemmer" 194) (.ref 174) 0)
noncomputable def q171 (P:Params):=oT [(yS "self" 404)]
noncomputable def zt29:=bN (q0 P) (bN (q75 P) (bL (q139 P)) (zt1 P)) (bN (q1 P) (bL (q171 P)) bZ)
noncomputable def q173 (P:Params):=oV (fB 2 21 (.ofString "BaseStemmer.assign_to") 0 .none .none 0)
noncomputable def zt27:=bN (q45 P) (bN (q77 P) (zt0 P) (zt0 P)) (bN (q0 P) (bL (q173 P)) bZ)
noncomputable def q174 (P:Params):=oC [(yS "assign_to" 401),(yS "BaseStemmer.assign_to" 402),(yP 403),(zI 192),(zI 1),(zI 0),(zI 0),(zI 3),(.ref 176),(.bool true),(zI 181),(.ref 177),.none,(.ref 178),(.ref 179),(.ref 180),(zI 405),(zI 192),(yP 406)]
noncomputable def q175 (P:Params):=oU (fB 2 21 (.ofString "BaseStemmer.assign_to") 3 (yS "snowballstemmer.basestemmer" 194) (.ref 181) 0)
noncomputable def q178 (P:Params):=oT [(yS "self" 411),(yS "word" 412)]
noncomputable def q180 (P:Params):=oV (fB 2 22 (.ofString "BaseStemmer.stemWord") 0 .none .none 0)
noncomputable def q181 (P:Params):=oC [(yS "stemWord" 408),(yS "BaseStemmer.stemWord" 409),(yP 410),(zI 195),(zI 2),(zI 0),(zI 0),(zI 3),(.ref 183),(.bool true),(zI 181),(.ref 184),.none,(.ref 185),(.ref 186),(.ref 187),(zI 413),(zI 195),(yP 414)]
noncomputable def q182 (P:Params):=oU (fB 2 22 (.ofString "BaseStemmer.stemWord") 3 (yS "snowballstemmer.basestemmer" 194) (.ref 188) 0)
noncomputable def q185 (P:Params):=oV (fB 2 23 (.ofString "BaseStemmer.stemWords") 0 .none .none 0)
noncomputable def zt11:=bN (q0 P) (bN (q0 P) (zt1 P) (bL (q185 P))) (bN (q89 P) (bL (q153 P)) bZ)
noncomputable def q186 (P:Params):=oC [(yS "stemWords" 416),(yS "BaseStemmer.stemWords" 417),(yP 418),(zI 200),(zI 2),(zI 0),(zI 0),(zI 3),(.ref 190),(.bool true),(zI 181),(.ref 191),.none,.none,.none,(.ref 192),(zI 419),(zI 200),(yP 420)]
noncomputable def zt7:=bN (q1 P) (bL (q122 P)) (bL (q186 P))
noncomputable def zt8:=bN (q26 P) (zt7 P) (bN (q90 P) (bL (q154 P)) bZ)
noncomputable def q187 (P:Params):=oU (fB 2 23 (.ofString "BaseStemmer.stemWords") 3 (yS "snowballstemmer.basestemmer" 194) (.ref 193) 0)
noncomputable def zt14:=bN (q27 P) (bN (q59 P) (zt0 P) (bL (q187 P))) (bN (q91 P) (zt0 P) bZ)
noncomputable def q188 (P:Params):=oT [(yS "bra" 422),(yS "current" 423),(yS "cursor" 424),(yS "ket" 425),(yS "limit" 426),(yS "limit_backward" 427)]
noncomputable def zt6:=bN (q28 P) (bN (q0 P) (bL (q124 P)) (bL (q188 P))) (zt5 P)
noncomputable def q189:=oD 4 [ze11 P,eD P "__firstlineno__" 207 (.int 5 206),eD P "__init__" 214 (.ref 35),eD P "set_current" 222 (.ref 42),eD P "get_current" 229 (.ref 49),eD P "copy_from" 237 (.ref 56),eD P "in_grouping" 245 (.ref 63),eD P "go_in_grouping" 253 (.ref 70),eD P "in_grouping_b" 261 (.ref 77),eD P "go_in_grouping_b" 269 (.ref 84),eD P "out_grouping" 277 (.ref 91),eD P "go_out_grouping" 285 (.ref 98),eD P "out_grouping_b" 293 (.ref 105),eD P "go_out_grouping_b" 301 (.ref 112),eD P "eq_s" 309 (.ref 119),eD P "eq_s_b" 317 (.ref 126),eD P "find_among" 337 (.ref 133),eD P "find_among_b" 357 (.ref 140),eD P "replace_s" 368 (.ref 147),eD P "slice_from" 376 (.ref 154),eD P "slice_del" 383 (.ref 161),eD P "insert" 393 (.ref 168),eD P "slice_to" 400 (.ref 175),eD P "assign_to" 407 (.ref 182),eD P "stemWord" 415 (.ref 189),eD P "stemWords" 421 (.ref 194),eD P "__static_attributes__" 428 (.ref 195),eD P "__dict__" 430 (.ref 198),eD P "__weakref__" 432 (.ref 199),eD P "__doc__" 433 .none]
noncomputable def zt13:=bN (q0 P) (bN (q61 P) (bL (q125 P)) (bL (q189 P))) (bN (q1 P) (bL (q157 P)) bZ)
noncomputable def q190 (P:Params):Obj:=⟨(.type "type"),none,.cls { name:=(.ofString "BaseStemmer"),bases:=[(.type "object")],mro:=[(.ref 197),(.type "object")],ns:=196,qualname:=(.ofString "BaseStemmer"),hasDict:=true,slotNames:=[],subclasses:=[],abstract:=false,collection:=none,hasDel:=false },[none,none,some (yS "BaseStemmer" 196),some (yS "BaseStemmer" 204),some (.builtin "object.__new__"),some (.bool true)].toArray⟩
noncomputable def zt10:=bN (q1 P) (bN (q62 P) (bL (q126 P)) (bL (q190 P))) (bN (q94 P) (zt0 P) bZ)
noncomputable def q191 (P:Params):Obj:=⟨(.type "getset_descriptor"),none,.fields [(yS "__dict__" 429),(.ref 197),(.builtin "function.__dict__"),(.builtin "function.__dict__#set")].toArray,[].toArray⟩
noncomputable def zt15:=bN (q63 P) (zt0 P) (bL (q191 P))
noncomputable def zt16:=bN (q31 P) (zt15 P) (bN (q0 P) (bL (q159 P)) bZ)
noncomputable def q192 (P:Params):Obj:=⟨(.type "getset_descriptor"),none,.fields [(yS "__weakref__" 431),(.ref 197),(.builtin "ExceptionGroup.__weakref__"),.none].toArray,[].toArray⟩
noncomputable def zt3:=bN (q0 P) (zt1 P) (bL (q192 P))
noncomputable def zt4:=bN (q0 P) (zt3 P) (bN (q96 P) (bL (q160 P)) bZ)
noncomputable def q193 (P:Params):Obj:=⟨(.type "super"),none,.fields [(.ref 197),(.ref 197),(.ref 197)].toArray,[].toArray⟩
noncomputable def zt12:=bN (q33 P) (bN (q1 P) (bL (q129 P)) (bL (q193 P))) (bN (q97 P) (bL (q161 P)) bZ)
noncomputable def q194 (P:Params):Obj:=⟨(.type "builtin_function_or_method"),none,.fields [(.builtin "object.__init_subclass__"),(.ref 197)].toArray,[].toArray⟩
noncomputable def zt9:=bN (q34 P) (bN (q66 P) (zt0 P) (bL (q194 P))) (bN (q98 P) (zt0 P) bZ)
noncomputable def trP1:BT:=(bN (boot_o_0 P) (bN (boot_o_1 P) (bN (q13 P) (bN (boot_o_7 P) (bN (q0 P) (zt2 P) (bN (q40 P) (bN (q1 P) (bL (q136 P)) bZ) (bN (q104 P) (bL (q168 P)) bZ))) (bN (q16 P) (zt4 P) (bN (q48 P) (bN (q80 P) (zt0 P) bZ) (bN (q112 P) (zt0 P) bZ)))) (bN (q0 P) (bN (q10 P) (zt6 P) (bN (q1 P) (bN (q76 P) (bL (q140 P)) bZ) (bN (q108 P) (zt0 P) bZ))) (bN (q20 P) (bN (q0 P) (bN (q68 P) (bL (q132 P)) bZ) (bN (q1 P) (bL (q164 P)) bZ)) (bN (q52 P) (bN (q84 P) (zt0 P) bZ) (bN (q0 P) (bL (q180 P)) bZ))))) (bN (boot_o_5 P) (bN (boot_o_9 P) (bN (q8 P) (zt8 P) (bN (q42 P) (bN (q0 P) (bL (q138 P)) bZ) (zt5 P))) (bN (q0 P) (zt9 P) (bN (q0 P) (bN (q82 P) (bL (q146 P)) bZ) (bN (q1 P) (bL (q178 P)) bZ)))) (bN (q2 P) (bN (q12 P) (zt10 P) (bN (q0 P) (zt5 P) (bN (q110 P) (bL (q174 P)) bZ))) (bN (q0 P) (bN (q38 P) (bN (q70 P) (zt0 P) bZ) (bN (q0 P) (bL (q166 P)) bZ)) (bN (q54 P) (bN (q1 P) (bL (q150 P)) bZ) (bN (q118 P) (bL (q182 P)) bZ)))))) (bN (boot_o_2 P) (bN (boot_o_4 P) (bN (boot_o_8 P) (bN (q1 P) (zt11 P) (bN (q41 P) (bN (q73 P) (zt0 P) bZ) (bN (q105 P) (zt0 P) bZ))) (bN (q17 P) (zt12 P) (bN (q49 P) (bN (q0 P) (bL (q145 P)) bZ) (zt5 P)))) (bN (q14 P) (bN (q11 P) (zt13 P) (bN (q45 P) (bN (q77 P) (zt0 P) bZ) (bN (q0 P) (bL (q173 P)) bZ))) (bN (q21 P) (bN (q1 P) (bN (q69 P) (bL (q133 P)) bZ) (bN (q101 P) (zt0 P) bZ)) (bN (q0 P) (zt5 P) (bN (q117 P) (bL (q181 P)) bZ))))) (bN (boot_o_6 P) (bN (boot_o_10 P) (bN (q0 P) (zt14 P) (bN (q0 P) (bN (q75 P) (bL (q139 P)) bZ) (bN (q1 P) (bL (q171 P)) bZ))) (bN (q19 P) (bN (q35 P) (bN (q0 P) (bL (q131 P)) bZ) (zt5 P)) (bN (q1 P) (bN (q83 P) (bL (q147 P)) bZ) (bN (q115 P) (zt0 P) bZ)))) (bN (q3 P) (bN (q0 P) (zt16 P) (bN (q47 P) (bN (q1 P) (bL (q143 P)) bZ) (bN (q111 P) (bL (q175 P)) bZ))) (bN (q1 P) (bN (q0 P) (zt5 P) (bN (q103 P) (bL (q167 P)) bZ)) (bN (q55 P) (bN (q87 P) (zt0 P) bZ) (bN (q119 P) (zt0 P) bZ)))))))
noncomputable def q195:=oD 12 [ze12 P,ze1 P,ze2 P,ze3 P,ze4 P,ze5 P,ze6 P,ze7 P,ze8 P,ze9 P,ze10 P,ze13 P]
noncomputable def q196 (P:Params):=oF [(zI 1),(zI 0),(.ref 20),(zI 5),(zI 0),(.ref 27),(zI 203),(zI 0),(.ref 207)]
noncomputable def q199:=oD 5 [ze14 P,eD P "__qualname__" 447 (yS "Among" 446),eD P "__firstlineno__" 449 (.int 203 448),eD P "__init__" 459 (.ref 215),eD P "__static_attributes__" 463 (.ref 216)]
noncomputable def q201 (P:Params):=oF [(zI 205),(zI 4),(.ref 214)]
noncomputable def q202 (P:Params):=oC [(yS "Among" 440),(yS "Among" 441),(yP 442),(zI 203),(zI 0),(zI 0),(zI 0),(zI 0),(.ref 205),(.bool false),(zI 181),(.ref 206),.none,.none,.none,.none,(zI 443),(zI 203),(yP 444)]
noncomputable def zt17:=bN (q40 P) (bN (q1 P) (bL (q136 P)) (bL (q202 P))) (bN (q104 P) (bL (q168 P)) bZ)
noncomputable def q203 (P:Params):Obj:=⟨(.type "frame"),none,.plain,[some (.ref 207),some (.ref 3),some (.ref 204),none,some (yS "snowballstemmer.among" 436),none,some (.ref 0)].toArray⟩
noncomputable def zt25:=bN (q41 P) (bN (q73 P) (zt0 P) (bL (q203 P))) (bN (q105 P) (zt0 P) bZ)
noncomputable def zt40:=bN (q1 P) (bN (q0 P) (bN (q0 P) (zt1 P) (bL (q185 P))) (bN (q89 P) (bL (q153 P)) (bL (q16 P)))) (zt25 P)
noncomputable def q206 (P:Params):=oT [(yS "self" 453),(yS "s" 454),(yS "substring_i" 455),(yS "result" 456)]
noncomputable def zt19:=bN (q1 P) (bN (q76 P) (bL (q140 P)) (bL (q206 P))) (bN (q108 P) (zt0 P) bZ)
noncomputable def zt52:=bN (q76 P) (bN (q140 P) (zt0 P) bZ) (bL (q206 P))
noncomputable def q208 (P:Params):=oV (fB 4 0 (.ofString "Among.__init__") 0 .none .none 0)
noncomputable def zt23:=bN (q0 P) (bN (q0 P) (zt1 P) (bL (q208 P))) (bN (q110 P) (bL (q174 P)) bZ)
noncomputable def q209 (P:Params):=oC [(yS "__init__" 450),(yS "Among.__init__" 451),(yP 452),(zI 205),(zI 4),(zI 0),(zI 0),(zI 3),(.ref 209),(.bool true),(zI 181),(.ref 210),.none,(.ref 211),(.ref 212),(.ref 213),(zI 457),(zI 205),(yP 458)]
noncomputable def zt31:=bN (q47 P) (bN (q1 P) (bL (q143 P)) (bL (q209 P))) (bN (q111 P) (bL (q175 P)) bZ)
noncomputable def zt71:=bN (q1 P) (bN (q143 P) (zt0 P) bZ) (bL (q209 P))
noncomputable def q210 (P:Params):=oU (fB 4 0 (.ofString "Among.__init__") 3 (yS "snowballstemmer.among" 436) (.ref 214) 0)
noncomputable def zt18:=bN (q48 P) (bN (q80 P) (zt0 P) (bL (q210 P))) (bN (q112 P) (zt0 P) bZ)
noncomputable def q211 (P:Params):=oT [(yS "result" 460),(yS "s" 461),(yS "substring_i" 462)]
noncomputable def zt26:=bN (q49 P) (bN (q0 P) (bL (q145 P)) (bL (q211 P))) (zt5 P)
noncomputable def q212:=oD 4 [ze14 P,eD P "__firstlineno__" 449 (.int 203 448),eD P "__init__" 459 (.ref 215),eD P "__static_attributes__" 463 (.ref 216),eD P "__dict__" 465 (.ref 219),eD P "__weakref__" 467 (.ref 220),eD P "__doc__" 468 .none]
noncomputable def zt22:=bN (q0 P) (zt9 P) (bN (q0 P) (bN (q82 P) (bL (q146 P)) (bL (q212 P))) (bN (q1 P) (bL (q178 P)) bZ))
noncomputable def q213 (P:Params):Obj:=⟨(.type "type"),none,.cls { name:=(.ofString "Among"),bases:=[(.type "object")],mro:=[(.ref 218),(.type "object")],ns:=217,qualname:=(.ofString "Among"),hasDict:=true,slotNames:=[],subclasses:=[],abstract:=false,collection:=none,hasDel:=false },[none,none,some (yS "Among" 438),some (yS "Among" 446),some (.builtin "object.__new__"),some (.bool true)].toArray⟩
noncomputable def zt30:=bN (q19 P) (bN (q35 P) (bN (q0 P) (bL (q131 P)) (zt0 P)) (zt5 P)) (bN (q1 P) (bN (q83 P) (bL (q147 P)) (bL (q213 P))) (bN (q115 P) (zt0 P) bZ))
noncomputable def zt43:=bN (boot_o_10 P) (bN (q0 P) (bN (q27 P) (bN (q59 P) (zt0 P) (bL (q187 P))) (bN (q91 P) (zt0 P) (zt0 P))) (zt29 P)) (zt30 P)
noncomputable def zt69:=bN (q83 P) (bN (q147 P) (zt0 P) bZ) (bL (q213 P))
noncomputable def q214 (P:Params):Obj:=⟨(.type "getset_descriptor"),none,.fields [(yS "__dict__" 464),(.ref 218),(.builtin "function.__dict__"),(.builtin "function.__dict__#set")].toArray,[].toArray⟩
noncomputable def zt20:=bN (q20 P) (bN (q0 P) (bN (q68 P) (bL (q132 P)) (bL (q16 P))) (bN (q1 P) (bL (q164 P)) bZ)) (bN (q52 P) (bN (q84 P) (zt0 P) (bL (q214 P))) (bN (q0 P) (bL (q180 P)) bZ))
noncomputable def zt36:=bN (q0 P) (bN (q10 P) (bN (q28 P) (bN (q0 P) (bL (q124 P)) (bL (q188 P))) (zt35 P)) (zt19 P)) (zt20 P)
noncomputable def q215 (P:Params):Obj:=⟨(.type "getset_descriptor"),none,.fields [(yS "__weakref__" 466),(.ref 218),(.builtin "ExceptionGroup.__weakref__"),.none].toArray,[].toArray⟩
noncomputable def zt28:=bN (q21 P) (bN (q1 P) (bN (q69 P) (bL (q133 P)) (bL (q199 P))) (bN (q101 P) (zt0 P) bZ)) (bN (q0 P) (bN (q0 P) (zt1 P) (bL (q215 P))) (bN (q117 P) (bL (q181 P)) bZ))
noncomputable def q216 (P:Params):Obj:=⟨(.type "super"),none,.fields [(.ref 218),(.ref 218),(.ref 218)].toArray,[].toArray⟩
noncomputable def zt24:=bN (q0 P) (bN (q38 P) (bN (q70 P) (zt0 P) (zt0 P)) (bN (q0 P) (bL (q166 P)) bZ)) (bN (q54 P) (bN (q1 P) (bL (q150 P)) (bL (q216 P))) (bN (q118 P) (bL (q182 P)) bZ))
noncomputable def zt60:=bN (q1 P) (bN (q150 P) (zt0 P) bZ) (bL (q216 P))
noncomputable def q217 (P:Params):Obj:=⟨(.type "builtin_function_or_method"),none,.fields [(.builtin "object.__init_subclass__"),(.ref 218)].toArray,[].toArray⟩
noncomputable def zt32:=bN (q1 P) (bN (q0 P) (bN (q0 P) (zt1 P) (bL (q201 P))) (bN (q103 P) (bL (q167 P)) bZ)) (bN (q55 P) (bN (q87 P) (zt0 P) (bL (q217 P))) (bN (q119 P) (zt0 P) bZ))
noncomputable def zt33:=bN (q3 P) (bN (q0 P) (zt16 P) (zt31 P)) (zt32 P)
noncomputable def zt45:=bN (boot_o_6 P) (zt43 P) (bN (q3 P) (bN (q0 P) (bN (q31 P) (zt15 P) (bN (q0 P) (bL (q159 P)) (bL (gO0 P)))) (zt31 P)) (zt32 P))
noncomputable def trP2:BT:=(bN (boot_o_0 P) (bN (boot_o_1 P) (bN (q195 P) (bN (boot_o_7 P) (bN (q0 P) (zt2 P) (zt17 P)) (bN (q16 P) (zt4 P) (zt18 P))) (bN (q0 P) (bN (q10 P) (zt6 P) (zt19 P)) (zt20 P))) (bN (boot_o_5 P) (bN (boot_o_9 P) (bN (q8 P) (zt8 P) (zt21 P)) (zt22 P)) (bN (q2 P) (bN (q12 P) (zt10 P) (zt23 P)) (zt24 P)))) (bN (boot_o_2 P) (bN (boot_o_4 P) (bN (boot_o_8 P) (bN (q1 P) (zt11 P) (zt25 P)) (bN (q17 P) (zt12 P) (zt26 P))) (bN (q196 P) (bN (q11 P) (zt13 P) (zt27 P)) (zt28 P))) (bN (boot_o_6 P) (bN (boot_o_10 P) (bN (q0 P) (zt14 P) (zt29 P)) (zt30 P)) (zt33 P))))
noncomputable def q218 (P:Params):=oF [(zI 1),(zI 0),(.ref 20),(zI 5),(zI 0),(.ref 27),(zI 203),(zI 0),(.ref 207),(zI 210),(zI 0),(.ref 228)]
noncomputable def q219 (P:Params):=oT [(.ref 197)]
noncomputable def zt34:=bN (q0 P) (bN (q24 P) (bN (q56 P) (zt0 P) (zt1 P)) (bN (q0 P) (bL (q152 P)) (bL (q219 P)))) (zt17 P)
noncomputable def zt37:=bN (q195 P) (bN (boot_o_7 P) (zt34 P) (bN (q16 P) (zt4 P) (zt18 P))) (zt36 P)
noncomputable def zt47:=bN (q195 P) (bN (boot_o_7 P) (zt34 P) (bN (q16 P) (bN (q0 P) (zt3 P) (bN (q96 P) (bL (q160 P)) (bL (gO1 P)))) (zt18 P))) (zt36 P)
noncomputable def q221:=oD 3 [ze15 P,ze16 P,ze17 P]
noncomputable def q224 (P:Params):=oC [(yS "DutchPorterStemmer" 475),(yS "DutchPorterStemmer" 476),(yP 477),(zI 210),(zI 0),(zI 0),(zI 0),(zI 0),(.ref 226),(.bool false),(zI 181),(.ref 227),.none,.none,.none,.none,(zI 478),(zI 210),(yP 479)]
noncomputable def zt41:=bN (q218 P) (bN (q11 P) (bN (q0 P) (bN (q61 P) (bL (q125 P)) (bL (q189 P))) (bN (q1 P) (bL (q157 P)) (bL (q224 P)))) (zt27 P)) (zt28 P)
noncomputable def zt42:=bN (boot_o_4 P) (bN (boot_o_8 P) (zt40 P) (bN (q17 P) (zt12 P) (zt26 P))) (zt41 P)
noncomputable def zt64:=bN (q1 P) (bN (q157 P) (zt0 P) bZ) (bL (q224 P))
noncomputable def q225 (P:Params):Obj:=⟨(.type "frame"),none,.plain,[some (.ref 228),some (.ref 3),some (.ref 225),none,some yM,none,some (.ref 0)].toArray⟩
noncomputable def zt38:=bN (q2 P) (bN (q12 P) (bN (q1 P) (bN (q62 P) (bL (q126 P)) (bL (q190 P))) (bN (q94 P) (zt0 P) (bL (q225 P)))) (zt23 P)) (zt24 P)
noncomputable def zt39:=bN (boot_o_1 P) (zt37 P) (bN (boot_o_5 P) (bN (boot_o_9 P) (bN (q8 P) (bN (q26 P) (zt7 P) (bN (q90 P) (bL (q154 P)) (bL (q221 P)))) (zt21 P)) (zt22 P)) (zt38 P))
noncomputable def trA:BT:=(bN (boot_o_0 P) (zt39 P) (bN (boot_o_2 P) (zt42 P) (bN (boot_o_6 P) (zt43 P) (zt33 P))))
noncomputable def trN0 (o:Obj):BT:=(bN (boot_o_0 P) (zt39 P) (bN (boot_o_2 P) (zt42 P) (bN (boot_o_6 P) (zt43 P) (bN (q3 P) (bN (q0 P) (bN (q31 P) (zt15 P) (bN (q0 P) (bL (q159 P)) (bL o))) (zt31 P)) (zt32 P)))))
noncomputable def q226:=oD 4 [ze15 P,ze16 P,ze17 P,ze18 P]
noncomputable def zt44:=bN (boot_o_5 P) (bN (boot_o_9 P) (bN (q8 P) (bN (q26 P) (zt7 P) (bN (q90 P) (bL (q154 P)) (bL (q226 P)))) (zt21 P)) (zt22 P)) (zt38 P)
noncomputable def trB0 (o:Obj):BT:=(bN (boot_o_0 P) (bN (boot_o_1 P) (zt37 P) (zt44 P)) (bN (boot_o_2 P) (zt42 P) (bN (boot_o_6 P) (zt43 P) (bN (q3 P) (bN (q0 P) (bN (q31 P) (zt15 P) (bN (q0 P) (bL (q159 P)) (bL o))) (zt31 P)) (zt32 P)))))
noncomputable def trN1 (o:Obj):BT:=(bN (boot_o_0 P) (bN (boot_o_1 P) (bN (q195 P) (bN (boot_o_7 P) (zt34 P) (bN (q16 P) (bN (q0 P) (zt3 P) (bN (q96 P) (bL (q160 P)) (bL o))) (zt18 P))) (zt36 P)) (zt44 P)) (bN (boot_o_2 P) (zt42 P) (zt45 P)))
noncomputable def q227:=oD 5 [ze15 P,ze16 P,ze17 P,ze18 P,ze19 P]
noncomputable def zt46:=bN (boot_o_5 P) (bN (boot_o_9 P) (bN (q8 P) (bN (q26 P) (zt7 P) (bN (q90 P) (bL (q154 P)) (bL (q227 P)))) (zt21 P)) (zt22 P)) (zt38 P)
noncomputable def trB1 (o:Obj):BT:=(bN (boot_o_0 P) (bN (boot_o_1 P) (bN (q195 P) (bN (boot_o_7 P) (zt34 P) (bN (q16 P) (bN (q0 P) (zt3 P) (bN (q96 P) (bL (q160 P)) (bL o))) (zt18 P))) (zt36 P)) (zt46 P)) (bN (boot_o_2 P) (zt42 P) (zt45 P)))
noncomputable def trN2 (o:Obj):BT:=(bN (boot_o_0 P) (bN (boot_o_1 P) (zt47 P) (zt46 P)) (bN (boot_o_2 P) (bN (boot_o_4 P) (bN (boot_o_8 P) (zt40 P) (bN (q17 P) (bN (q33 P) (bN (q1 P) (bL (q129 P)) (bL (q193 P))) (bN (q97 P) (bL (q161 P)) (bL o))) (zt26 P))) (zt41 P)) (zt45 P)))
noncomputable def q228:=oD 6 [ze15 P,ze16 P,ze17 P,ze18 P,ze19 P,ze20 P]
noncomputable def trB2 (o:Obj):BT:=(bN (boot_o_0 P) (bN (boot_o_1 P) (zt47 P) (bN (boot_o_5 P) (bN (boot_o_9 P) (bN (q8 P) (bN (q26 P) (zt7 P) (bN (q90 P) (bL (q154 P)) (bL (q228 P)))) (zt21 P)) (zt22 P)) (zt38 P))) (bN (boot_o_2 P) (bN (boot_o_4 P) (bN (boot_o_8 P) (zt40 P) (bN (q17 P) (bN (q33 P) (bN (q1 P) (bL (q129 P)) (bL (q193 P))) (bN (q97 P) (bL (q161 P)) (bL o))) (zt26 P))) (zt41 P)) (zt45 P)))
noncomputable def q229:=oD 19 [ze15 P,ze16 P,ze17 P,ze18 P,ze19 P,ze20 P,ze21 P,ze22 P,ze23 P,ze24 P,ze25 P,ze26 P,ze27 P,ze28 P,ze29 P,ze30 P,ze31 P,ze32 P,ze33 P]
noncomputable def q230 (P:Params):=oF [(zI 218),(zI 4),(.ref 238),(zI 301),(zI 4),(.ref 245),(zI 332),(zI 4),(.ref 252),(zI 354),(zI 4),(.ref 259),(zI 357),(zI 4),(.ref 266),(zI 360),(zI 4),(.ref 273),(zI 373),(zI 4),(.ref 280),(zI 390),(zI 4),(.ref 287),(zI 406),(zI 4),(.ref 294),(zI 544),(zI 4),(.ref 301)]
noncomputable def q233 (P:Params):=oT [(yS "self" 542),(yS "v_1" 543),(yS "v_2" 544),(yS "among_var" 545),(yS "v_3" 546),(yS "v_4" 547),(yS "v_5" 548),(yS "v_6" 549),(yS "v_7" 550)]
noncomputable def zt53:=bN (q1 P) (bN (q164 P) (zt0 P) bZ) (bL (q233 P))
noncomputable def q235 (P:Params):=oV (fB 6 6 (.ofString "DutchPorterStemmer.r_prelude") 0 .none .none 0)
noncomputable def q236 (P:Params):=oC [(yS "r_prelude" 539),(yS "DutchPorterStemmer.r_prelude" 540),(yP 541),(zI 218),(zI 1),(zI 0),(zI 0),(zI 3),(.ref 233),(.bool true),(zI 181),(.ref 234),.none,(.ref 235),(.ref 236),(.ref 237),(zI 551),(zI 218),(yP 552)]
noncomputable def q237 (P:Params):=oU (fB 6 6 (.ofString "DutchPorterStemmer.r_prelude") 3 yM (.ref 238) 0)
noncomputable def q240 (P:Params):=oT [(yS "self" 557),(yS "v_1" 558),(yS "I_x" 559)]
noncomputable def q242 (P:Params):=oV (fB 6 7 (.ofString "DutchPorterStemmer.r_mark_regions") 0 .none .none 0)
noncomputable def q243 (P:Params):=oC [(yS "r_mark_regions" 554),(yS "DutchPorterStemmer.r_mark_regions" 555),(yP 556),(zI 301),(zI 1),(zI 0),(zI 0),(zI 3),(.ref 240),(.bool true),(zI 181),(.ref 241),.none,(.ref 242),(.ref 243),(.ref 244),(zI 560),(zI 301),(yP 561)]
noncomputable def q244 (P:Params):=oU (fB 6 7 (.ofString "DutchPorterStemmer.r_mark_regions") 3 yM (.ref 245) 0)
noncomputable def q247 (P:Params):=oT [(yS "self" 566),(yS "v_1" 567),(yS "among_var" 568)]
noncomputable def q249 (P:Params):=oV (fB 6 8 (.ofString "DutchPorterStemmer.r_postlude") 0 .none .none 0)
noncomputable def q250 (P:Params):=oC [(yS "r_postlude" 563),(yS "DutchPorterStemmer.r_postlude" 564),(yP 565),(zI 332),(zI 1),(zI 0),(zI 0),(zI 3),(.ref 247),(.bool true),(zI 181),(.ref 248),.none,(.ref 249),(.ref 250),(.ref 251),(zI 569),(zI 332),(yP 570)]
noncomputable def q251 (P:Params):=oU (fB 6 8 (.ofString "DutchPorterStemmer.r_postlude") 3 yM (.ref 252) 0)
noncomputable def q254 (P:Params):=oT [(yS "self" 575)]
noncomputable def q256 (P:Params):=oV (fB 6 9 (.ofString "DutchPorterStemmer.r_R1") 0 .none .none 0)
noncomputable def q257 (P:Params):=oC [(yS "r_R1" 572),(yS "DutchPorterStemmer.r_R1" 573),(yP 574),(zI 354),(zI 1),(zI 0),(zI 0),(zI 3),(.ref 254),(.bool true),(zI 181),(.ref 255),.none,(.ref 256),(.ref 257),(.ref 258),(zI 576),(zI 354),(yP 577)]
noncomputable def q258 (P:Params):=oU (fB 6 9 (.ofString "DutchPorterStemmer.r_R1") 3 yM (.ref 259) 0)
noncomputable def q261 (P:Params):=oT [(yS "self" 582)]
noncomputable def q263 (P:Params):=oV (fB 6 10 (.ofString "DutchPorterStemmer.r_R2") 0 .none .none 0)
noncomputable def q264 (P:Params):=oC [(yS "r_R2" 579),(yS "DutchPorterStemmer.r_R2" 580),(yP 581),(zI 357),(zI 1),(zI 0),(zI 0),(zI 3),(.ref 261),(.bool true),(zI 181),(.ref 262),.none,(.ref 263),(.ref 264),(.ref 265),(zI 583),(zI 357),(yP 584)]
noncomputable def q265 (P:Params):=oU (fB 6 10 (.ofString "DutchPorterStemmer.r_R2") 3 yM (.ref 266) 0)
noncomputable def q268 (P:Params):=oT [(yS "self" 589),(yS "v_1" 590)]
noncomputable def q270 (P:Params):=oV (fB 6 11 (.ofString "DutchPorterStemmer.r_undouble") 0 .none .none 0)
noncomputable def q271 (P:Params):=oC [(yS "r_undouble" 586),(yS "DutchPorterStemmer.r_undouble" 587),(yP 588),(zI 360),(zI 1),(zI 0),(zI 0),(zI 3),(.ref 268),(.bool true),(zI 181),(.ref 269),.none,(.ref 270),(.ref 271),(.ref 272),(zI 591),(zI 360),(yP 592)]
noncomputable def zt55:=bN (q0 P) (bN (q138 P) (bL (q271 P)) bZ) (zt0 P)
noncomputable def q272 (P:Params):=oU (fB 6 11 (.ofString "DutchPorterStemmer.r_undouble") 3 yM (.ref 273) 0)
noncomputable def zt67:=bN (q75 P) (bN (q139 P) (bL (q272 P)) bZ) (zt1 P)
noncomputable def q275 (P:Params):=oT [(yS "self" 597),(yS "v_1" 598)]
noncomputable def zt58:=bN (q0 P) (bN (q1 P) (bL (q275 P)) bZ) (bL (q208 P))
noncomputable def q277 (P:Params):=oV (fB 6 12 (.ofString "DutchPorterStemmer.r_e_ending") 0 .none .none 0)
noncomputable def zt50:=bN (q80 P) (bN (q0 P) (bL (q277 P)) bZ) (bL (q210 P))
noncomputable def q278 (P:Params):=oC [(yS "r_e_ending" 594),(yS "DutchPorterStemmer.r_e_ending" 595),(yP 596),(zI 373),(zI 1),(zI 0),(zI 0),(zI 3),(.ref 275),(.bool true),(zI 181),(.ref 276),.none,(.ref 277),(.ref 278),(.ref 279),(zI 599),(zI 373),(yP 600)]
noncomputable def zt63:=bN (q0 P) (bN (q145 P) (bL (q278 P)) bZ) (bL (q211 P))
noncomputable def q279 (P:Params):=oU (fB 6 12 (.ofString "DutchPorterStemmer.r_e_ending") 3 yM (.ref 280) 0)
noncomputable def zt56:=bN (q82 P) (bN (q146 P) (bL (q279 P)) bZ) (bL (q212 P))
noncomputable def q282 (P:Params):=oT [(yS "self" 605),(yS "v_1" 606)]
noncomputable def zt66:=bN (q0 P) (bN (q1 P) (bL (q282 P)) bZ) (bL (q215 P))
noncomputable def q284 (P:Params):=oV (fB 6 13 (.ofString "DutchPorterStemmer.r_en_ending") 0 .none .none 0)
noncomputable def zt73:=bN (q87 P) (bN (q0 P) (bL (q284 P)) bZ) (bL (q217 P))
noncomputable def q285 (P:Params):=oC [(yS "r_en_ending" 602),(yS "DutchPorterStemmer.r_en_ending" 603),(yP 604),(zI 390),(zI 1),(zI 0),(zI 0),(zI 3),(.ref 282),(.bool true),(zI 181),(.ref 283),.none,(.ref 284),(.ref 285),(.ref 286),(zI 607),(zI 390),(yP 608)]
noncomputable def zt48:=bN (q0 P) (bN (q152 P) (bL (q285 P)) bZ) (bL (q219 P))
noncomputable def q286 (P:Params):=oU (fB 6 13 (.ofString "DutchPorterStemmer.r_en_ending") 3 yM (.ref 287) 0)
noncomputable def zt61:=bN (q89 P) (bN (q153 P) (bL (q286 P)) bZ) (bL (q16 P))
noncomputable def q289 (P:Params):=oT [(yS "self" 613),(yS "v_1" 614),(yS "among_var" 615),(yS "v_2" 616),(yS "v_3" 617),(yS "v_4" 618),(yS "v_5" 619),(yS "v_6" 620),(yS "v_7" 621)]
noncomputable def zt51:=bN (q0 P) (bN (q1 P) (bL (q289 P)) bZ) (bL (q230 P))
noncomputable def q291 (P:Params):=oV (fB 6 14 (.ofString "DutchPorterStemmer.r_standard_suffix") 0 .none .none 0)
noncomputable def zt57:=bN (q94 P) (bN (q0 P) (bL (q291 P)) bZ) (bL (q225 P))
noncomputable def q292 (P:Params):=oC [(yS "r_standard_suffix" 610),(yS "DutchPorterStemmer.r_standard_suffix" 611),(yP 612),(zI 406),(zI 1),(zI 0),(zI 0),(zI 3),(.ref 289),(.bool true),(zI 181),(.ref 290),.none,(.ref 291),(.ref 292),(.ref 293),(zI 622),(zI 406),(yP 623)]
noncomputable def zt70:=bN (q0 P) (bN (q159 P) (bL (q292 P)) bZ) (bL (gO0 P))
noncomputable def q293 (P:Params):=oU (fB 6 14 (.ofString "DutchPorterStemmer.r_standard_suffix") 3 yM (.ref 294) 0)
noncomputable def zt49:=bN (q96 P) (bN (q160 P) (bL (q293 P)) bZ) (bL (gO1 P))
noncomputable def q296 (P:Params):=oT [(yS "self" 628),(yS "v_1" 629),(yS "v_2" 630),(yS "v_3" 631)]
noncomputable def zt68:=bN (q0 P) (bN (q1 P) (bL (q296 P)) bZ) (zt1 P)
noncomputable def q298 (P:Params):=oV (fB 6 15 (.ofString "DutchPorterStemmer._stem") 0 .none .none 0)
noncomputable def zt65:=bN (q101 P) (bN (q0 P) (bL (q298 P)) bZ) (zt0 P)
noncomputable def q299 (P:Params):=oC [(yS "_stem" 625),(yS "DutchPorterStemmer._stem" 626),(yP 627),(zI 544),(zI 1),(zI 0),(zI 0),(zI 3),(.ref 296),(.bool true),(zI 181),(.ref 297),.none,(.ref 298),(.ref 299),(.ref 300),(zI 632),(zI 544),(yP 633)]
noncomputable def zt59:=bN (q0 P) (bN (q166 P) (bL (q299 P)) bZ) (bL (q235 P))
noncomputable def q300 (P:Params):=oU (fB 6 15 (.ofString "DutchPorterStemmer._stem") 3 yM (.ref 301) 0)
noncomputable def zt72:=bN (q103 P) (bN (q167 P) (bL (q300 P)) bZ) (bL (q236 P))
noncomputable def trM0:BT:=(bN (boot_o_0 P) (bN (boot_o_1 P) (bN (q195 P) (bN (boot_o_7 P) (bN (q0 P) (bN (q24 P) (bN (q56 P) (zt5 P) (zt1 P)) (zt48 P)) (bN (q40 P) (bN (q1 P) (bN (q136 P) (zt0 P) bZ) (bL (q202 P))) (bN (q104 P) (bL (q168 P)) (bL (q237 P))))) (bN (q16 P) (bN (q0 P) (bN (q0 P) (bN (q1 P) (bL (q261 P)) bZ) (bL (q192 P))) (zt49 P)) (bN (q48 P) (zt50 P) (bN (q112 P) (zt0 P) (zt0 P))))) (bN (q0 P) (bN (q10 P) (bN (q28 P) (bN (q0 P) (bN (q124 P) (bL (q257 P)) bZ) (bL (q188 P))) (zt51 P)) (bN (q1 P) (zt52 P) (bN (q108 P) (zt0 P) (zt0 P)))) (bN (q20 P) (bN (q0 P) (bN (q68 P) (bN (q132 P) (bL (q265 P)) bZ) (bL (q16 P))) (zt53 P)) (bN (q52 P) (bN (q84 P) (zt5 P) (bL (q214 P))) (bN (q0 P) (bL (q180 P)) (bL (q249 P))))))) (bN (boot_o_5 P) (bN (boot_o_9 P) (bN (q8 P) (bN (q26 P) (bN (q1 P) (bN (q122 P) (zt0 P) bZ) (bL (q186 P))) (bN (q90 P) (zt54 P) (bL (q229 P)))) (bN (q42 P) (zt55 P) (zt35 P))) (bN (q0 P) (bN (q34 P) (bN (q66 P) (bN (q0 P) (bL (q263 P)) bZ) (bL (q194 P))) (bN (q98 P) (zt5 P) (zt0 P))) (bN (q0 P) (zt56 P) (bN (q1 P) (bL (q178 P)) (bL (q247 P)))))) (bN (q2 P) (bN (q12 P) (bN (q1 P) (bN (q62 P) (bN (q126 P) (zt0 P) bZ) (bL (q190 P))) (zt57 P)) (bN (q0 P) (zt58 P) (bN (q110 P) (bL (q174 P)) (bL (q243 P))))) (bN (q0 P) (bN (q38 P) (bN (q70 P) (zt5 P) (zt0 P)) (zt59 P)) (bN (q54 P) (zt60 P) (bN (q118 P) (bL (q182 P)) (bL (q251 P)))))))) (bN (boot_o_2 P) (bN (boot_o_4 P) (bN (boot_o_8 P) (bN (q1 P) (bN (q0 P) (bN (q0 P) (bN (q1 P) (bL (q254 P)) bZ) (bL (q185 P))) (zt61 P)) (bN (q41 P) (bN (q73 P) (bN (q0 P) (bL (q270 P)) bZ) (bL (q203 P))) (bN (q105 P) (zt0 P) (zt0 P)))) (bN (q17 P) (bN (q33 P) (bN (q1 P) (bN (q129 P) (zt0 P) bZ) (bL (q193 P))) (zt62 P)) (bN (q49 P) (zt63 P) (zt35 P)))) (bN (q218 P) (bN (q11 P) (bN (q0 P) (bN (q61 P) (bN (q125 P) (bL (q258 P)) bZ) (bL (q189 P))) (zt64 P)) (bN (q45 P) (bN (q77 P) (zt5 P) (zt0 P)) (bN (q0 P) (bL (q173 P)) (bL (q242 P))))) (bN (q21 P) (bN (q1 P) (bN (q69 P) (bN (q133 P) (zt0 P) bZ) (bL (q199 P))) (zt65 P)) (bN (q0 P) (zt66 P) (bN (q117 P) (bL (q181 P)) (bL (q250 P))))))) (bN (boot_o_6 P) (bN (boot_o_10 P) (bN (q0 P) (bN (q27 P) (bN (q59 P) (bN (q0 P) (bL (q256 P)) bZ) (bL (q187 P))) (bN (q91 P) (zt5 P) (zt0 P))) (bN (q0 P) (zt67 P) (bN (q1 P) (bL (q171 P)) (bL (q240 P))))) (bN (q19 P) (bN (q35 P) (bN (q0 P) (bN (q131 P) (bL (q264 P)) bZ) (zt0 P)) (zt68 P)) (bN (q1 P) (zt69 P) (bN (q115 P) (zt0 P) (zt0 P))))) (bN (q3 P) (bN (q0 P) (bN (q31 P) (bN (q63 P) (zt5 P) (bL (q191 P))) (zt70 P)) (bN (q47 P) (zt71 P) (bN (q111 P) (bL (q175 P)) (bL (q244 P))))) (bN (q1 P) (bN (q0 P) (bN (q0 P) (bN (q1 P) (bL (q268 P)) bZ) (bL (q201 P))) (zt72 P)) (bN (q55 P) (zt73 P) (bN (q119 P) (zt0 P) (zt0 P))))))))
noncomputable def q301:=oD 20 [ze15 P,ze16 P,ze17 P,ze18 P,ze19 P,ze20 P,ze21 P,ze22 P,ze23 P,ze24 P,ze25 P,ze26 P,ze27 P,ze28 P,ze29 P,ze30 P,ze31 P,ze32 P,ze33 P,ze34 P]
noncomputable def q302:=oD 3 [eD P "s" 644 (yS "" 635),eD P "substring_i" 646 (.int (-1) 637),eD P "result" 648 (.int 6 638)]
noncomputable def q303 (P:Params):=oI 303
noncomputable def q304:=oK 4 [eD P "self" 639 (.ref 304),eD P "s" 640 (yS "" 635),eD P "substring_i" 641 (.int (-1) 637),eD P "result" 642 (.int 6 638)]
noncomputable def zt86:=bN (q0 P) (bN (q1 P) (bL (q304 P)) bZ) (zt1 P)
noncomputable def q305:=oD 3 [eD P "s" 657 (yS "á" 649),eD P "substring_i" 659 (.int 0 650),eD P "result" 661 (.int 1 651)]
noncomputable def zt108:=bN (q1 P) (bN (q171 P) (bL (q305 P)) bZ) (bL (q240 P))
noncomputable def q306 (P:Params):=oI 306
noncomputable def zt81:=bN (q108 P) (bN (q0 P) (bL (q306 P)) bZ) (zt0 P)
noncomputable def q307:=oK 4 [eD P "self" 652 (.ref 307),eD P "s" 653 (yS "á" 649),eD P "substring_i" 654 (.int 0 650),eD P "result" 655 (.int 1 651)]
noncomputable def zt102:=bN (q0 P) (bN (q173 P) (bL (q307 P)) bZ) (bL (q242 P))
noncomputable def q308:=oD 3 [eD P "s" 670 (yS "ä" 662),eD P "substring_i" 672 (.int 0 663),eD P "result" 674 (.int 1 664)]
noncomputable def zt91:=bN (q110 P) (bN (q174 P) (bL (q308 P)) bZ) (bL (q243 P))
noncomputable def q309 (P:Params):=oI 309
noncomputable def zt112:=bN (q111 P) (bN (q175 P) (bL (q309 P)) bZ) (bL (q244 P))
noncomputable def q310:=oK 4 [eD P "self" 665 (.ref 310),eD P "s" 666 (yS "ä" 662),eD P "substring_i" 667 (.int 0 663),eD P "result" 668 (.int 1 664)]
noncomputable def zt79:=bN (q112 P) (bN (q0 P) (bL (q310 P)) bZ) (zt0 P)
noncomputable def q311:=oD 3 [eD P "s" 683 (yS "é" 675),eD P "substring_i" 685 (.int 0 676),eD P "result" 687 (.int 2 677)]
noncomputable def zt100:=bN (q0 P) (bN (q1 P) (bL (q311 P)) bZ) (zt1 P)
noncomputable def q312 (P:Params):=oI 312
noncomputable def zt89:=bN (q1 P) (bN (q178 P) (bL (q312 P)) bZ) (bL (q247 P))
noncomputable def q313:=oK 4 [eD P "self" 678 (.ref 313),eD P "s" 679 (yS "é" 675),eD P "substring_i" 680 (.int 0 676),eD P "result" 681 (.int 2 677)]
noncomputable def zt110:=bN (q115 P) (bN (q0 P) (bL (q313 P)) bZ) (zt0 P)
noncomputable def q314:=oD 3 [eD P "s" 696 (yS "ë" 688),eD P "substring_i" 698 (.int 0 689),eD P "result" 700 (.int 2 690)]
noncomputable def zt83:=bN (q0 P) (bN (q180 P) (bL (q314 P)) bZ) (bL (q249 P))
noncomputable def q315 (P:Params):=oI 315
noncomputable def zt104:=bN (q117 P) (bN (q181 P) (bL (q315 P)) bZ) (bL (q250 P))
noncomputable def q316:=oK 4 [eD P "self" 691 (.ref 316),eD P "s" 692 (yS "ë" 688),eD P "substring_i" 693 (.int 0 689),eD P "result" 694 (.int 2 690)]
noncomputable def zt93:=bN (q118 P) (bN (q182 P) (bL (q316 P)) bZ) (bL (q251 P))
noncomputable def q317:=oD 3 [eD P "s" 709 (yS "í" 701),eD P "substring_i" 711 (.int 0 702),eD P "result" 713 (.int 3 703)]
noncomputable def zt114:=bN (q119 P) (bN (q0 P) (bL (q317 P)) bZ) (zt0 P)
noncomputable def q318 (P:Params):=oI 318
noncomputable def zt74:=bN (q56 P) (zt5 P) (bN (q1 P) (bL (q318 P)) bZ)
noncomputable def q319:=oK 4 [eD P "self" 704 (.ref 319),eD P "s" 705 (yS "í" 701),eD P "substring_i" 706 (.int 0 702),eD P "result" 707 (.int 3 703)]
noncomputable def zt95:=bN (q0 P) (bN (q1 P) (bL (q254 P)) bZ) (bN (q185 P) (bL (q319 P)) bZ)
noncomputable def q320:=oD 3 [eD P "s" 722 (yS "ï" 714),eD P "substring_i" 724 (.int 0 715),eD P "result" 726 (.int 3 716)]
noncomputable def zt85:=bN (q1 P) (bN (q122 P) (zt0 P) bZ) (bN (q186 P) (bL (q320 P)) bZ)
noncomputable def q321 (P:Params):=oI 321
noncomputable def zt106:=bN (q59 P) (bN (q0 P) (bL (q256 P)) bZ) (bN (q187 P) (bL (q321 P)) bZ)
noncomputable def zt107:=bN (q27 P) (zt106 P) (bN (q91 P) (zt5 P) (zt0 P))
noncomputable def q322:=oK 4 [eD P "self" 717 (.ref 322),eD P "s" 718 (yS "ï" 714),eD P "substring_i" 719 (.int 0 715),eD P "result" 720 (.int 3 716)]
noncomputable def zt80:=bN (q0 P) (bN (q124 P) (bL (q257 P)) bZ) (bN (q188 P) (bL (q322 P)) bZ)
noncomputable def q323:=oD 3 [eD P "s" 735 (yS "ó" 727),eD P "substring_i" 737 (.int 0 728),eD P "result" 739 (.int 4 729)]
noncomputable def zt101:=bN (q61 P) (bN (q125 P) (bL (q258 P)) bZ) (bN (q189 P) (bL (q323 P)) bZ)
noncomputable def q324 (P:Params):=oI 324
noncomputable def zt90:=bN (q62 P) (bN (q126 P) (zt0 P) bZ) (bN (q190 P) (bL (q324 P)) bZ)
noncomputable def q325:=oK 4 [eD P "self" 730 (.ref 325),eD P "s" 731 (yS "ó" 727),eD P "substring_i" 732 (.int 0 728),eD P "result" 733 (.int 4 729)]
noncomputable def zt111:=bN (q63 P) (zt5 P) (bN (q191 P) (bL (q325 P)) bZ)
noncomputable def q326:=oD 3 [eD P "s" 748 (yS "ö" 740),eD P "substring_i" 750 (.int 0 741),eD P "result" 752 (.int 4 742)]
noncomputable def zt78:=bN (q0 P) (bN (q1 P) (bL (q261 P)) bZ) (bN (q192 P) (bL (q326 P)) bZ)
noncomputable def q327 (P:Params):=oI 327
noncomputable def zt99:=bN (q1 P) (bN (q129 P) (zt0 P) bZ) (bN (q193 P) (bL (q327 P)) bZ)
noncomputable def q328:=oK 4 [eD P "self" 743 (.ref 328),eD P "s" 744 (yS "ö" 740),eD P "substring_i" 745 (.int 0 741),eD P "result" 746 (.int 4 742)]
noncomputable def zt87:=bN (q66 P) (bN (q0 P) (bL (q263 P)) bZ) (bN (q194 P) (bL (q328 P)) bZ)
noncomputable def zt88:=bN (q34 P) (zt87 P) (bN (q98 P) (zt5 P) (zt0 P))
noncomputable def q329:=oD 3 [eD P "s" 761 (yS "ú" 753),eD P "substring_i" 763 (.int 0 754),eD P "result" 765 (.int 5 755)]
noncomputable def zt109:=bN (q0 P) (bN (q131 P) (bL (q264 P)) bZ) (bN (q0 P) (bL (q329 P)) bZ)
noncomputable def q330 (P:Params):=oI 330
noncomputable def zt82:=bN (q68 P) (bN (q132 P) (bL (q265 P)) bZ) (bN (q16 P) (bL (q330 P)) bZ)
noncomputable def zt84:=bN (q20 P) (bN (q0 P) (zt82 P) (zt53 P)) (bN (q52 P) (bN (q84 P) (zt5 P) (bL (q214 P))) (zt83 P))
noncomputable def q331:=oK 4 [eD P "self" 756 (.ref 331),eD P "s" 757 (yS "ú" 753),eD P "substring_i" 758 (.int 0 754),eD P "result" 759 (.int 5 755)]
noncomputable def zt103:=bN (q69 P) (bN (q133 P) (zt0 P) bZ) (bN (q199 P) (bL (q331 P)) bZ)
noncomputable def zt105:=bN (q21 P) (bN (q1 P) (zt103 P) (zt65 P)) (bN (q0 P) (zt66 P) (zt104 P))
noncomputable def q332:=oD 3 [eD P "s" 774 (yS "ü" 766),eD P "substring_i" 776 (.int 0 767),eD P "result" 778 (.int 5 768)]
noncomputable def zt92:=bN (q70 P) (zt5 P) (bN (q0 P) (bL (q332 P)) bZ)
noncomputable def zt94:=bN (q0 P) (bN (q38 P) (zt92 P) (zt59 P)) (bN (q54 P) (zt60 P) (zt93 P))
noncomputable def q333 (P:Params):=oI 333
noncomputable def zt113:=bN (q0 P) (bN (q1 P) (bL (q268 P)) bZ) (bN (q201 P) (bL (q333 P)) bZ)
noncomputable def zt115:=bN (q1 P) (bN (q0 P) (zt113 P) (zt72 P)) (bN (q55 P) (zt73 P) (zt114 P))
noncomputable def q334:=oK 4 [eD P "self" 769 (.ref 334),eD P "s" 770 (yS "ü" 766),eD P "substring_i" 771 (.int 0 767),eD P "result" 772 (.int 5 768)]
noncomputable def zt75:=bN (q1 P) (bN (q136 P) (zt0 P) bZ) (bN (q202 P) (bL (q334 P)) bZ)
noncomputable def zt76:=bN (q40 P) (zt75 P) (bN (q104 P) (bN (q168 P) (bL (q302 P)) bZ) (bL (q237 P)))
noncomputable def zt77:=bN (q0 P) (bN (q24 P) (zt74 P) (zt48 P)) (zt76 P)
noncomputable def q335 (P:Params):Obj:=⟨(.type "list"),none,.seq [(.ref 304),(.ref 307),(.ref 310),(.ref 313),(.ref 316),(.ref 319),(.ref 322),(.ref 325),(.ref 328),(.ref 331),(.ref 334)].toArray 0,[].toArray⟩
noncomputable def zt96:=bN (q73 P) (bN (q0 P) (bL (q270 P)) bZ) (bN (q203 P) (bL (q335 P)) bZ)
noncomputable def zt97:=bN (q41 P) (zt96 P) (bN (q105 P) (bN (q0 P) (bL (q303 P)) bZ) (zt0 P))
noncomputable def zt98:=bN (q1 P) (bN (q0 P) (zt95 P) (zt61 P)) (zt97 P)
noncomputable def trM1:BT:=(bN (boot_o_0 P) (bN (boot_o_1 P) (bN (q195 P) (bN (boot_o_7 P) (zt77 P) (bN (q16 P) (bN (q0 P) (zt78 P) (zt49 P)) (bN (q48 P) (zt50 P) (zt79 P)))) (bN (q0 P) (bN (q10 P) (bN (q28 P) (zt80 P) (zt51 P)) (bN (q1 P) (zt52 P) (zt81 P))) (zt84 P))) (bN (boot_o_5 P) (bN (boot_o_9 P) (bN (q8 P) (bN (q26 P) (zt85 P) (bN (q90 P) (zt54 P) (bL (q301 P)))) (bN (q42 P) (zt55 P) (zt86 P))) (bN (q0 P) (zt88 P) (bN (q0 P) (zt56 P) (zt89 P)))) (bN (q2 P) (bN (q12 P) (bN (q1 P) (zt90 P) (zt57 P)) (bN (q0 P) (zt58 P) (zt91 P))) (zt94 P)))) (bN (boot_o_2 P) (bN (boot_o_4 P) (bN (boot_o_8 P) (zt98 P) (bN (q17 P) (bN (q33 P) (zt99 P) (zt62 P)) (bN (q49 P) (zt63 P) (zt100 P)))) (bN (q218 P) (bN (q11 P) (bN (q0 P) (zt101 P) (zt64 P)) (bN (q45 P) (bN (q77 P) (zt5 P) (zt0 P)) (zt102 P))) (zt105 P))) (bN (boot_o_6 P) (bN (boot_o_10 P) (bN (q0 P) (zt107 P) (bN (q0 P) (zt67 P) (zt108 P))) (bN (q19 P) (bN (q35 P) (zt109 P) (zt68 P)) (bN (q1 P) (zt69 P) (zt110 P)))) (bN (q3 P) (bN (q0 P) (bN (q31 P) (zt111 P) (zt70 P)) (bN (q47 P) (zt71 P) (zt112 P))) (zt115 P)))))
noncomputable def q336:=oD 21 [ze15 P,ze16 P,ze17 P,ze18 P,ze19 P,ze20 P,ze21 P,ze22 P,ze23 P,ze24 P,ze25 P,ze26 P,ze27 P,ze28 P,ze29 P,ze30 P,ze31 P,ze32 P,ze33 P,ze34 P,ze35 P]
noncomputable def q337:=oD 3 [eD P "s" 789 (yS "" 780),eD P "substring_i" 791 (.int (-1) 782),eD P "result" 793 (.int 3 783)]
noncomputable def zt119:=bN (q0 P) (bN (q138 P) (bL (q271 P)) bZ) (bN (q0 P) (bL (q337 P)) bZ)
noncomputable def q338 (P:Params):=oI 337
noncomputable def zt127:=bN (q75 P) (bN (q139 P) (bL (q272 P)) bZ) (bN (q1 P) (bL (q338 P)) bZ)
noncomputable def q339:=oK 4 [eD P "self" 784 (.ref 338),eD P "s" 785 (yS "" 780),eD P "substring_i" 786 (.int (-1) 782),eD P "result" 787 (.int 3 783)]
noncomputable def zt118:=bN (q76 P) (bN (q140 P) (zt0 P) bZ) (bN (q206 P) (bL (q339 P)) bZ)
noncomputable def q340:=oD 3 [eD P "s" 802 (yS "I" 794),eD P "substring_i" 804 (.int 0 795),eD P "result" 806 (.int 2 796)]
noncomputable def zt126:=bN (q77 P) (zt5 P) (bN (q0 P) (bL (q340 P)) bZ)
noncomputable def q341 (P:Params):=oI 340
noncomputable def zt122:=bN (q0 P) (bN (q1 P) (bL (q275 P)) bZ) (bN (q208 P) (bL (q341 P)) bZ)
noncomputable def zt123:=bN (q12 P) (bN (q1 P) (zt90 P) (zt57 P)) (bN (q0 P) (zt122 P) (zt91 P))
noncomputable def q342:=oK 4 [eD P "self" 797 (.ref 341),eD P "s" 798 (yS "I" 794),eD P "substring_i" 799 (.int 0 795),eD P "result" 800 (.int 2 796)]
noncomputable def zt130:=bN (q1 P) (bN (q143 P) (zt0 P) bZ) (bN (q209 P) (bL (q342 P)) bZ)
noncomputable def zt131:=bN (q0 P) (bN (q31 P) (zt111 P) (zt70 P)) (bN (q47 P) (zt130 P) (zt112 P))
noncomputable def q343:=oD 3 [eD P "s" 815 (yS "Y" 807),eD P "substring_i" 817 (.int 0 808),eD P "result" 819 (.int 1 809)]
noncomputable def zt116:=bN (q80 P) (bN (q0 P) (bL (q277 P)) bZ) (bN (q210 P) (bL (q343 P)) bZ)
noncomputable def zt117:=bN (q16 P) (bN (q0 P) (zt78 P) (zt49 P)) (bN (q48 P) (zt116 P) (zt79 P))
noncomputable def q344 (P:Params):=oI 343
noncomputable def zt124:=bN (q0 P) (bN (q145 P) (bL (q278 P)) bZ) (bN (q211 P) (bL (q344 P)) bZ)
noncomputable def zt125:=bN (q17 P) (bN (q33 P) (zt99 P) (zt62 P)) (bN (q49 P) (zt124 P) (zt100 P))
noncomputable def q345:=oK 4 [eD P "self" 810 (.ref 344),eD P "s" 811 (yS "Y" 807),eD P "substring_i" 812 (.int 0 808),eD P "result" 813 (.int 1 809)]
noncomputable def zt120:=bN (q82 P) (bN (q146 P) (bL (q279 P)) bZ) (bN (q212 P) (bL (q345 P)) bZ)
noncomputable def zt121:=bN (q0 P) (zt88 P) (bN (q0 P) (zt120 P) (zt89 P))
noncomputable def q346 (P:Params):Obj:=⟨(.type "list"),none,.seq [(.ref 338),(.ref 341),(.ref 344)].toArray 0,[].toArray⟩
noncomputable def zt128:=bN (q83 P) (bN (q147 P) (zt0 P) bZ) (bN (q213 P) (bL (q346 P)) bZ)
noncomputable def zt129:=bN (q19 P) (bN (q35 P) (zt109 P) (zt68 P)) (bN (q1 P) (zt128 P) (zt110 P))
noncomputable def trM2:BT:=(bN (boot_o_0 P) (bN (boot_o_1 P) (bN (q195 P) (bN (boot_o_7 P) (zt77 P) (zt117 P)) (bN (q0 P) (bN (q10 P) (bN (q28 P) (zt80 P) (zt51 P)) (bN (q1 P) (zt118 P) (zt81 P))) (zt84 P))) (bN (boot_o_5 P) (bN (boot_o_9 P) (bN (q8 P) (bN (q26 P) (zt85 P) (bN (q90 P) (zt54 P) (bL (q336 P)))) (bN (q42 P) (zt119 P) (zt86 P))) (zt121 P)) (bN (q2 P) (zt123 P) (zt94 P)))) (bN (boot_o_2 P) (bN (boot_o_4 P) (bN (boot_o_8 P) (zt98 P) (zt125 P)) (bN (q218 P) (bN (q11 P) (bN (q0 P) (zt101 P) (zt64 P)) (bN (q45 P) (zt126 P) (zt102 P))) (zt105 P))) (bN (boot_o_6 P) (bN (boot_o_10 P) (bN (q0 P) (zt107 P) (bN (q0 P) (zt127 P) (zt108 P))) (zt129 P)) (bN (q3 P) (zt131 P) (zt115 P)))))
noncomputable def q347:=oD 22 [ze15 P,ze16 P,ze17 P,ze18 P,ze19 P,ze20 P,ze21 P,ze22 P,ze23 P,ze24 P,ze25 P,ze26 P,ze27 P,ze28 P,ze29 P,ze30 P,ze31 P,ze32 P,ze33 P,ze34 P,ze35 P,ze36 P]
noncomputable def q348:=oD 3 [eD P "s" 831 (yS "dd" 821),eD P "substring_i" 833 (.int (-1) 823),eD P "result" 835 (.int (-1) 825)]
noncomputable def zt134:=bN (q84 P) (zt5 P) (bN (q214 P) (bL (q348 P)) bZ)
noncomputable def zt211:=bN (q84 P) (bN (q0 P) (zt1 P) (bL (q16 P))) (bN (q214 P) (bL (q348 P)) bZ)
noncomputable def q349 (P:Params):=oI 347
noncomputable def zt138:=bN (q0 P) (bN (q1 P) (bL (q282 P)) bZ) (bN (q215 P) (bL (q349 P)) bZ)
noncomputable def q350:=oK 4 [eD P "self" 826 (.ref 348),eD P "s" 827 (yS "dd" 821),eD P "substring_i" 828 (.int (-1) 823),eD P "result" 829 (.int (-1) 825)]
noncomputable def zt135:=bN (q1 P) (bN (q150 P) (zt0 P) bZ) (bN (q216 P) (bL (q350 P)) bZ)
noncomputable def zt217:=bN (q1 P) (bN (q150 P) (zt0 P) (zt0 P)) (bN (q216 P) (bL (q350 P)) bZ)
noncomputable def zt262:=bN (q1 P) (bN (q150 P) (zt0 P) (zt0 P)) (bN (q216 P) (bL (q350 P)) (zt0 P))
noncomputable def q351:=oD 3 [eD P "s" 846 (yS "kk" 836),eD P "substring_i" 848 (.int (-1) 838),eD P "result" 850 (.int (-1) 840)]
noncomputable def zt140:=bN (q87 P) (bN (q0 P) (bL (q284 P)) bZ) (bN (q217 P) (bL (q351 P)) bZ)
noncomputable def zt230:=bN (q87 P) (bN (q0 P) (bL (q284 P)) (zt1 P)) (bN (q217 P) (bL (q351 P)) bZ)
noncomputable def zt268:=bN (q87 P) (bN (q0 P) (bL (q284 P)) (zt1 P)) (bN (q217 P) (bL (q351 P)) (zt1 P))
noncomputable def q352 (P:Params):=oI 350
noncomputable def zt132:=bN (q0 P) (bN (q152 P) (bL (q285 P)) bZ) (bN (q219 P) (bL (q352 P)) bZ)
noncomputable def q353:=oK 4 [eD P "self" 841 (.ref 351),eD P "s" 842 (yS "kk" 836),eD P "substring_i" 843 (.int (-1) 838),eD P "result" 844 (.int (-1) 840)]
noncomputable def zt136:=bN (q89 P) (bN (q153 P) (bL (q286 P)) bZ) (bN (q16 P) (bL (q353 P)) bZ)
noncomputable def q354:=oD 3 [eD P "s" 861 (yS "tt" 851),eD P "substring_i" 863 (.int (-1) 853),eD P "result" 865 (.int (-1) 855)]
noncomputable def q355 (P:Params):=oI 353
noncomputable def zt139:=bN (q91 P) (zt5 P) (bN (q0 P) (bL (q355 P)) bZ)
noncomputable def q356:=oK 4 [eD P "self" 856 (.ref 354),eD P "s" 857 (yS "tt" 851),eD P "substring_i" 858 (.int (-1) 853),eD P "result" 859 (.int (-1) 855)]
noncomputable def zt133:=bN (q0 P) (bN (q1 P) (bL (q289 P)) bZ) (bN (q230 P) (bL (q356 P)) bZ)
noncomputable def q357 (P:Params):Obj:=⟨(.type "list"),none,.seq [(.ref 348),(.ref 351),(.ref 354)].toArray 0,[].toArray⟩
noncomputable def zt137:=bN (q1 P) (bN (q157 P) (zt0 P) bZ) (bN (q224 P) (bL (q357 P)) bZ)
noncomputable def trM3:BT:=(bN (boot_o_0 P) (bN (boot_o_1 P) (bN (q195 P) (bN (boot_o_7 P) (bN (q0 P) (bN (q24 P) (zt74 P) (zt132 P)) (zt76 P)) (zt117 P)) (bN (q0 P) (bN (q10 P) (bN (q28 P) (zt80 P) (zt133 P)) (bN (q1 P) (zt118 P) (zt81 P))) (bN (q20 P) (bN (q0 P) (zt82 P) (zt53 P)) (bN (q52 P) (zt134 P) (zt83 P))))) (bN (boot_o_5 P) (bN (boot_o_9 P) (bN (q8 P) (bN (q26 P) (zt85 P) (bN (q90 P) (zt54 P) (bN (q347 P) (bL (q354 P)) bZ))) (bN (q42 P) (zt119 P) (zt86 P))) (zt121 P)) (bN (q2 P) (zt123 P) (bN (q0 P) (bN (q38 P) (zt92 P) (zt59 P)) (bN (q54 P) (zt135 P) (zt93 P)))))) (bN (boot_o_2 P) (bN (boot_o_4 P) (bN (boot_o_8 P) (bN (q1 P) (bN (q0 P) (zt95 P) (zt136 P)) (zt97 P)) (zt125 P)) (bN (q218 P) (bN (q11 P) (bN (q0 P) (zt101 P) (zt137 P)) (bN (q45 P) (zt126 P) (zt102 P))) (bN (q21 P) (bN (q1 P) (zt103 P) (zt65 P)) (bN (q0 P) (zt138 P) (zt104 P))))) (bN (boot_o_6 P) (bN (boot_o_10 P) (bN (q0 P) (bN (q27 P) (zt106 P) (zt139 P)) (bN (q0 P) (zt127 P) (zt108 P))) (zt129 P)) (bN (q3 P) (zt131 P) (bN (q1 P) (bN (q0 P) (zt113 P) (zt72 P)) (bN (q55 P) (zt140 P) (zt114 P)))))))
noncomputable def q358:=oD 23 [ze15 P,ze16 P,ze17 P,ze18 P,ze19 P,ze20 P,ze21 P,ze22 P,ze23 P,ze24 P,ze25 P,ze26 P,ze27 P,ze28 P,ze29 P,ze30 P,ze31 P,ze32 P,ze33 P,ze34 P,ze35 P,ze36 P,ze37 P]
noncomputable def q359:=oD 3 [eD P "s" 876 (yS "ene" 867),eD P "substring_i" 878 (.int (-1) 869),eD P "result" 880 (.int 2 870)]
noncomputable def zt147:=bN (q94 P) (bN (q0 P) (bL (q291 P)) bZ) (bN (q225 P) (bL (q359 P)) bZ)
noncomputable def q360 (P:Params):=oI 357
noncomputable def zt155:=bN (q0 P) (bN (q159 P) (bL (q292 P)) bZ) (bN (gO0 P) (bL (q360 P)) bZ)
noncomputable def q361:=oK 4 [eD P "self" 871 (.ref 358),eD P "s" 872 (yS "ene" 867),eD P "substring_i" 873 (.int (-1) 869),eD P "result" 874 (.int 2 870)]
noncomputable def zt142:=bN (q96 P) (bN (q160 P) (bL (q293 P)) bZ) (bN (gO1 P) (bL (q361 P)) bZ)
noncomputable def q362:=oD 3 [eD P "s" 890 (yS "se" 881),eD P "substring_i" 892 (.int (-1) 883),eD P "result" 894 (.int 3 884)]
noncomputable def zt150:=bN (q97 P) (bN (q161 P) (zt0 P) bZ) (bN (gO2 P) (bL (q362 P)) bZ)
noncomputable def zt220:=bN (q97 P) (bN (q161 P) (zt0 P) (bL (q16 P))) (bN (gO2 P) (bL (q362 P)) bZ)
noncomputable def q363 (P:Params):=oI 360
noncomputable def zt146:=bN (q98 P) (zt5 P) (bN (q0 P) (bL (q363 P)) bZ)
noncomputable def q364:=oK 4 [eD P "self" 885 (.ref 361),eD P "s" 886 (yS "se" 881),eD P "substring_i" 887 (.int (-1) 883),eD P "result" 888 (.int 3 884)]
noncomputable def zt154:=bN (q0 P) (bN (q1 P) (bL (q296 P)) bZ) (bN (q1 P) (bL (q364 P)) bZ)
noncomputable def zt226:=bN (q0 P) (bN (q1 P) (bL (q296 P)) (zt0 P)) (bN (q1 P) (bL (q364 P)) bZ)
noncomputable def q365:=oD 3 [eD P "s" 904 (yS "en" 895),eD P "substring_i" 906 (.int (-1) 897),eD P "result" 908 (.int 2 898)]
noncomputable def zt144:=bN (q1 P) (bN (q164 P) (zt0 P) bZ) (bN (q233 P) (bL (q365 P)) bZ)
noncomputable def zt210:=bN (q1 P) (bN (q164 P) (zt0 P) (zt1 P)) (bN (q233 P) (bL (q365 P)) bZ)
noncomputable def q366 (P:Params):=oI 363
noncomputable def zt152:=bN (q101 P) (bN (q0 P) (bL (q298 P)) bZ) (bN (q0 P) (bL (q366 P)) bZ)
noncomputable def q367:=oK 4 [eD P "self" 899 (.ref 364),eD P "s" 900 (yS "en" 895),eD P "substring_i" 901 (.int (-1) 897),eD P "result" 902 (.int 2 898)]
noncomputable def zt148:=bN (q0 P) (bN (q166 P) (bL (q299 P)) bZ) (bN (q235 P) (bL (q367 P)) bZ)
noncomputable def q368:=oD 3 [eD P "s" 917 (yS "heden" 909),eD P "substring_i" 919 (.int 2 910),eD P "result" 921 (.int 1 911)]
noncomputable def zt156:=bN (q103 P) (bN (q167 P) (bL (q300 P)) bZ) (bN (q236 P) (bL (q368 P)) bZ)
noncomputable def zt229:=bN (q103 P) (bN (q167 P) (bL (q300 P)) (zt0 P)) (bN (q236 P) (bL (q368 P)) bZ)
noncomputable def q369 (P:Params):=oI 366
noncomputable def zt141:=bN (q104 P) (bN (q168 P) (bL (q302 P)) bZ) (bN (q237 P) (bL (q369 P)) bZ)
noncomputable def q370:=oK 4 [eD P "self" 912 (.ref 367),eD P "s" 913 (yS "heden" 909),eD P "substring_i" 914 (.int 2 910),eD P "result" 915 (.int 1 911)]
noncomputable def zt149:=bN (q105 P) (bN (q0 P) (bL (q303 P)) bZ) (bN (q0 P) (bL (q370 P)) bZ)
noncomputable def q371:=oD 3 [eD P "s" 931 (yS "s" 922),eD P "substring_i" 933 (.int (-1) 924),eD P "result" 935 (.int 3 925)]
noncomputable def zt145:=bN (q0 P) (bN (q1 P) (bL (q304 P)) bZ) (bN (q1 P) (bL (q371 P)) bZ)
noncomputable def q372 (P:Params):=oI 369
noncomputable def zt153:=bN (q1 P) (bN (q171 P) (bL (q305 P)) bZ) (bN (q240 P) (bL (q372 P)) bZ)
noncomputable def q373:=oK 4 [eD P "self" 926 (.ref 370),eD P "s" 927 (yS "s" 922),eD P "substring_i" 928 (.int (-1) 924),eD P "result" 929 (.int 3 925)]
noncomputable def zt143:=bN (q108 P) (bN (q0 P) (bL (q306 P)) bZ) (bN (q0 P) (bL (q373 P)) bZ)
noncomputable def q374 (P:Params):Obj:=⟨(.type "list"),none,.seq [(.ref 358),(.ref 361),(.ref 364),(.ref 367),(.ref 370)].toArray 0,[].toArray⟩
noncomputable def zt151:=bN (q0 P) (bN (q173 P) (bL (q307 P)) bZ) (bN (q242 P) (bL (q374 P)) bZ)
noncomputable def trM4:BT:=(bN (boot_o_0 P) (bN (boot_o_1 P) (bN (q195 P) (bN (boot_o_7 P) (bN (q0 P) (bN (q24 P) (zt74 P) (zt132 P)) (bN (q40 P) (zt75 P) (zt141 P))) (bN (q16 P) (bN (q0 P) (zt78 P) (zt142 P)) (bN (q48 P) (zt116 P) (zt79 P)))) (bN (q0 P) (bN (q10 P) (bN (q28 P) (zt80 P) (zt133 P)) (bN (q1 P) (zt118 P) (zt143 P))) (bN (q20 P) (bN (q0 P) (zt82 P) (zt144 P)) (bN (q52 P) (zt134 P) (zt83 P))))) (bN (boot_o_5 P) (bN (boot_o_9 P) (bN (q8 P) (bN (q26 P) (zt85 P) (bN (q90 P) (zt54 P) (bN (q358 P) (bL (q354 P)) bZ))) (bN (q42 P) (zt119 P) (zt145 P))) (bN (q0 P) (bN (q34 P) (zt87 P) (zt146 P)) (bN (q0 P) (zt120 P) (zt89 P)))) (bN (q2 P) (bN (q12 P) (bN (q1 P) (zt90 P) (zt147 P)) (bN (q0 P) (zt122 P) (zt91 P))) (bN (q0 P) (bN (q38 P) (zt92 P) (zt148 P)) (bN (q54 P) (zt135 P) (zt93 P)))))) (bN (boot_o_2 P) (bN (boot_o_4 P) (bN (boot_o_8 P) (bN (q1 P) (bN (q0 P) (zt95 P) (zt136 P)) (bN (q41 P) (zt96 P) (zt149 P))) (bN (q17 P) (bN (q33 P) (zt99 P) (zt150 P)) (bN (q49 P) (zt124 P) (zt100 P)))) (bN (q218 P) (bN (q11 P) (bN (q0 P) (zt101 P) (zt137 P)) (bN (q45 P) (zt126 P) (zt151 P))) (bN (q21 P) (bN (q1 P) (zt103 P) (zt152 P)) (bN (q0 P) (zt138 P) (zt104 P))))) (bN (boot_o_6 P) (bN (boot_o_10 P) (bN (q0 P) (bN (q27 P) (zt106 P) (zt139 P)) (bN (q0 P) (zt127 P) (zt153 P))) (bN (q19 P) (bN (q35 P) (zt109 P) (zt154 P)) (bN (q1 P) (zt128 P) (zt110 P)))) (bN (q3 P) (bN (q0 P) (bN (q31 P) (zt111 P) (zt155 P)) (bN (q47 P) (zt130 P) (zt112 P))) (bN (q1 P) (bN (q0 P) (zt113 P) (zt156 P)) (bN (q55 P) (zt140 P) (zt114 P)))))))
noncomputable def q375:=oD 24 [ze15 P,ze16 P,ze17 P,ze18 P,ze19 P,ze20 P,ze21 P,ze22 P,ze23 P,ze24 P,ze25 P,ze26 P,ze27 P,ze28 P,ze29 P,ze30 P,ze31 P,ze32 P,ze33 P,ze34 P,ze35 P,ze36 P,ze37 P,ze38 P]
noncomputable def q376:=oD 3 [eD P "s" 946 (yS "end" 937),eD P "substring_i" 948 (.int (-1) 939),eD P "result" 950 (.int 1 940)]
noncomputable def zt166:=bN (q110 P) (bN (q174 P) (bL (q308 P)) bZ) (bN (q243 P) (bL (q376 P)) bZ)
noncomputable def zt241:=bN (q110 P) (bN (q174 P) (bL (q308 P)) (bL (q16 P))) (bN (q243 P) (bL (q376 P)) bZ)
noncomputable def q377 (P:Params):=oI 373
noncomputable def zt176:=bN (q111 P) (bN (q175 P) (bL (q309 P)) bZ) (bN (q244 P) (bL (q377 P)) bZ)
noncomputable def q378:=oK 4 [eD P "self" 941 (.ref 374),eD P "s" 942 (yS "end" 937),eD P "substring_i" 943 (.int (-1) 939),eD P "result" 944 (.int 1 940)]
noncomputable def zt159:=bN (q112 P) (bN (q0 P) (bL (q310 P)) bZ) (bN (q0 P) (bL (q378 P)) bZ)
noncomputable def zt233:=bN (q112 P) (bN (q0 P) (bL (q310 P)) (zt0 P)) (bN (q0 P) (bL (q378 P)) bZ)
noncomputable def q379:=oD 3 [eD P "s" 960 (yS "ig" 951),eD P "substring_i" 962 (.int (-1) 953),eD P "result" 964 (.int 2 954)]
noncomputable def zt170:=bN (q0 P) (bN (q1 P) (bL (q311 P)) bZ) (bN (q1 P) (bL (q379 P)) bZ)
noncomputable def zt246:=bN (q0 P) (bN (q1 P) (bL (q311 P)) (zt1 P)) (bN (q1 P) (bL (q379 P)) bZ)
noncomputable def q380 (P:Params):=oI 376
noncomputable def zt164:=bN (q1 P) (bN (q178 P) (bL (q312 P)) bZ) (bN (q247 P) (bL (q380 P)) bZ)
noncomputable def q381:=oK 4 [eD P "self" 955 (.ref 377),eD P "s" 956 (yS "ig" 951),eD P "substring_i" 957 (.int (-1) 953),eD P "result" 958 (.int 2 954)]
noncomputable def zt174:=bN (q115 P) (bN (q0 P) (bL (q313 P)) bZ) (bN (q0 P) (bL (q381 P)) bZ)
noncomputable def q382:=oD 3 [eD P "s" 974 (yS "ing" 965),eD P "substring_i" 976 (.int (-1) 967),eD P "result" 978 (.int 1 968)]
noncomputable def zt162:=bN (q0 P) (bN (q180 P) (bL (q314 P)) bZ) (bN (q249 P) (bL (q382 P)) bZ)
noncomputable def zt236:=bN (q0 P) (bN (q180 P) (bL (q314 P)) (zt0 P)) (bN (q249 P) (bL (q382 P)) bZ)
noncomputable def q383 (P:Params):=oI 379
noncomputable def zt172:=bN (q117 P) (bN (q181 P) (bL (q315 P)) bZ) (bN (q250 P) (bL (q383 P)) bZ)
noncomputable def q384:=oK 4 [eD P "self" 969 (.ref 380),eD P "s" 970 (yS "ing" 965),eD P "substring_i" 971 (.int (-1) 967),eD P "result" 972 (.int 1 968)]
noncomputable def zt168:=bN (q118 P) (bN (q182 P) (bL (q316 P)) bZ) (bN (q251 P) (bL (q384 P)) bZ)
noncomputable def q385:=oD 3 [eD P "s" 988 (yS "lijk" 979),eD P "substring_i" 990 (.int (-1) 981),eD P "result" 992 (.int 3 982)]
noncomputable def zt178:=bN (q119 P) (bN (q0 P) (bL (q317 P)) bZ) (bN (q0 P) (bL (q385 P)) bZ)
noncomputable def q386 (P:Params):=oI 382
noncomputable def zt157:=bN (q56 P) (bN (q0 P) (zt1 P) (bL (q386 P))) (bN (q1 P) (bL (q318 P)) bZ)
noncomputable def q387:=oK 4 [eD P "self" 983 (.ref 383),eD P "s" 984 (yS "lijk" 979),eD P "substring_i" 985 (.int (-1) 981),eD P "result" 986 (.int 3 982)]
noncomputable def zt169:=bN (q0 P) (bN (q1 P) (bL (q254 P)) (bL (q387 P))) (bN (q185 P) (bL (q319 P)) bZ)
noncomputable def q388:=oD 3 [eD P "s" 1002 (yS "baar" 993),eD P "substring_i" 1004 (.int (-1) 995),eD P "result" 1006 (.int 4 996)]
noncomputable def zt163:=bN (q1 P) (bN (q122 P) (zt0 P) (bL (q388 P))) (bN (q186 P) (bL (q320 P)) bZ)
noncomputable def q389 (P:Params):=oI 385
noncomputable def zt173:=bN (q59 P) (bN (q0 P) (bL (q256 P)) (bL (q389 P))) (bN (q187 P) (bL (q321 P)) bZ)
noncomputable def zt251:=bN (q59 P) (bN (q0 P) (bL (q256 P)) (bL (q389 P))) (bN (q187 P) (bL (q321 P)) (bL (q16 P)))
noncomputable def q390:=oK 4 [eD P "self" 997 (.ref 386),eD P "s" 998 (yS "baar" 993),eD P "substring_i" 999 (.int (-1) 995),eD P "result" 1000 (.int 4 996)]
noncomputable def zt161:=bN (q0 P) (bN (q124 P) (bL (q257 P)) (bL (q390 P))) (bN (q188 P) (bL (q322 P)) bZ)
noncomputable def q391:=oD 3 [eD P "s" 1016 (yS "bar" 1007),eD P "substring_i" 1018 (.int (-1) 1009),eD P "result" 1020 (.int 5 1010)]
noncomputable def zt171:=bN (q61 P) (bN (q125 P) (bL (q258 P)) (bL (q391 P))) (bN (q189 P) (bL (q323 P)) bZ)
noncomputable def zt247:=bN (q61 P) (bN (q125 P) (bL (q258 P)) (bL (q391 P))) (bN (q189 P) (bL (q323 P)) (zt0 P))
noncomputable def q392 (P:Params):=oI 388
noncomputable def zt165:=bN (q126 P) (zt0 P) (bL (q392 P))
noncomputable def zt167:=bN (q12 P) (bN (q1 P) (bN (q62 P) (zt165 P) (bN (q190 P) (bL (q324 P)) bZ)) (zt147 P)) (bN (q0 P) (zt122 P) (zt166 P))
noncomputable def q393:=oK 4 [eD P "self" 1011 (.ref 389),eD P "s" 1012 (yS "bar" 1007),eD P "substring_i" 1013 (.int (-1) 1009),eD P "result" 1014 (.int 5 1010)]
noncomputable def zt175:=bN (q63 P) (bN (q0 P) (zt1 P) (bL (q393 P))) (bN (q191 P) (bL (q325 P)) bZ)
noncomputable def zt177:=bN (q0 P) (bN (q31 P) (zt175 P) (zt155 P)) (bN (q47 P) (zt130 P) (zt176 P))
noncomputable def q394 (P:Params):Obj:=⟨(.type "list"),none,.seq [(.ref 374),(.ref 377),(.ref 380),(.ref 383),(.ref 386),(.ref 389)].toArray 0,[].toArray⟩
noncomputable def zt158:=bN (q0 P) (bN (q1 P) (bL (q261 P)) (bL (q394 P))) (bN (q192 P) (bL (q326 P)) bZ)
noncomputable def zt160:=bN (q16 P) (bN (q0 P) (zt158 P) (zt142 P)) (bN (q48 P) (zt116 P) (zt159 P))
noncomputable def trM5:BT:=(bN (boot_o_0 P) (bN (boot_o_1 P) (bN (q195 P) (bN (boot_o_7 P) (bN (q0 P) (bN (q24 P) (zt157 P) (zt132 P)) (bN (q40 P) (zt75 P) (zt141 P))) (zt160 P)) (bN (q0 P) (bN (q10 P) (bN (q28 P) (zt161 P) (zt133 P)) (bN (q1 P) (zt118 P) (zt143 P))) (bN (q20 P) (bN (q0 P) (zt82 P) (zt144 P)) (bN (q52 P) (zt134 P) (zt162 P))))) (bN (boot_o_5 P) (bN (boot_o_9 P) (bN (q8 P) (bN (q26 P) (zt163 P) (bN (q90 P) (zt54 P) (bN (q375 P) (bL (q354 P)) bZ))) (bN (q42 P) (zt119 P) (zt145 P))) (bN (q0 P) (bN (q34 P) (zt87 P) (zt146 P)) (bN (q0 P) (zt120 P) (zt164 P)))) (bN (q2 P) (zt167 P) (bN (q0 P) (bN (q38 P) (zt92 P) (zt148 P)) (bN (q54 P) (zt135 P) (zt168 P)))))) (bN (boot_o_2 P) (bN (boot_o_4 P) (bN (boot_o_8 P) (bN (q1 P) (bN (q0 P) (zt169 P) (zt136 P)) (bN (q41 P) (zt96 P) (zt149 P))) (bN (q17 P) (bN (q33 P) (zt99 P) (zt150 P)) (bN (q49 P) (zt124 P) (zt170 P)))) (bN (q218 P) (bN (q11 P) (bN (q0 P) (zt171 P) (zt137 P)) (bN (q45 P) (zt126 P) (zt151 P))) (bN (q21 P) (bN (q1 P) (zt103 P) (zt152 P)) (bN (q0 P) (zt138 P) (zt172 P))))) (bN (boot_o_6 P) (bN (boot_o_10 P) (bN (q0 P) (bN (q27 P) (zt173 P) (zt139 P)) (bN (q0 P) (zt127 P) (zt153 P))) (bN (q19 P) (bN (q35 P) (zt109 P) (zt154 P)) (bN (q1 P) (zt128 P) (zt174 P)))) (bN (q3 P) (zt177 P) (bN (q1 P) (bN (q0 P) (zt113 P) (zt156 P)) (bN (q55 P) (zt140 P) (zt178 P)))))))
noncomputable def q395:=oD 25 [ze15 P,ze16 P,ze17 P,ze18 P,ze19 P,ze20 P,ze21 P,ze22 P,ze23 P,ze24 P,ze25 P,ze26 P,ze27 P,ze28 P,ze29 P,ze30 P,ze31 P,ze32 P,ze33 P,ze34 P,ze35 P,ze36 P,ze37 P,ze38 P,eD P "a_5" 1082 (.ref 404)]
noncomputable def q396:=oD 3 [eD P "s" 1032 (yS "aa" 1022),eD P "substring_i" 1034 (.int (-1) 1024),eD P "result" 1036 (.int (-1) 1026)]
noncomputable def zt190:=bN (q1 P) (bN (q129 P) (zt0 P) (bL (q396 P))) (bN (q193 P) (bL (q327 P)) bZ)
noncomputable def zt245:=bN (q1 P) (bN (q129 P) (zt0 P) (bL (q396 P))) (bN (q193 P) (bL (q327 P)) (zt0 P))
noncomputable def q397 (P:Params):=oI 392
noncomputable def zt185:=bN (q66 P) (bN (q0 P) (bL (q263 P)) (bL (q397 P))) (bN (q194 P) (bL (q328 P)) bZ)
noncomputable def q398:=oK 4 [eD P "self" 1027 (.ref 393),eD P "s" 1028 (yS "aa" 1022),eD P "substring_i" 1029 (.int (-1) 1024),eD P "result" 1030 (.int (-1) 1026)]
noncomputable def zt195:=bN (q0 P) (bN (q131 P) (bL (q264 P)) (bL (q398 P))) (bN (q0 P) (bL (q329 P)) bZ)
noncomputable def q399:=oD 3 [eD P "s" 1047 (yS "ee" 1037),eD P "substring_i" 1049 (.int (-1) 1039),eD P "result" 1051 (.int (-1) 1041)]
noncomputable def zt182:=bN (q68 P) (bN (q132 P) (bL (q265 P)) (bL (q399 P))) (bN (q16 P) (bL (q330 P)) bZ)
noncomputable def q400 (P:Params):=oI 395
noncomputable def zt192:=bN (q69 P) (bN (q133 P) (zt0 P) (bL (q400 P))) (bN (q199 P) (bL (q331 P)) bZ)
noncomputable def q401:=oK 4 [eD P "self" 1042 (.ref 396),eD P "s" 1043 (yS "ee" 1037),eD P "substring_i" 1044 (.int (-1) 1039),eD P "result" 1045 (.int (-1) 1041)]
noncomputable def zt186:=bN (q70 P) (bN (q0 P) (zt1 P) (bL (q401 P))) (bN (q0 P) (bL (q332 P)) bZ)
noncomputable def zt187:=bN (q0 P) (bN (q38 P) (zt186 P) (zt148 P)) (bN (q54 P) (zt135 P) (zt168 P))
noncomputable def q402:=oD 3 [eD P "s" 1062 (yS "oo" 1052),eD P "substring_i" 1064 (.int (-1) 1054),eD P "result" 1066 (.int (-1) 1056)]
noncomputable def zt197:=bN (q0 P) (bN (q1 P) (bL (q268 P)) (bL (q402 P))) (bN (q201 P) (bL (q333 P)) bZ)
noncomputable def zt198:=bN (q1 P) (bN (q0 P) (zt197 P) (zt156 P)) (bN (q55 P) (zt140 P) (zt178 P))
noncomputable def q403 (P:Params):=oI 398
noncomputable def zt179:=bN (q1 P) (bN (q136 P) (zt0 P) (bL (q403 P))) (bN (q202 P) (bL (q334 P)) bZ)
noncomputable def zt180:=bN (q0 P) (bN (q24 P) (zt157 P) (zt132 P)) (bN (q40 P) (zt179 P) (zt141 P))
noncomputable def q404:=oK 4 [eD P "self" 1057 (.ref 399),eD P "s" 1058 (yS "oo" 1052),eD P "substring_i" 1059 (.int (-1) 1054),eD P "result" 1060 (.int (-1) 1056)]
noncomputable def zt188:=bN (q73 P) (bN (q0 P) (bL (q270 P)) (bL (q404 P))) (bN (q203 P) (bL (q335 P)) bZ)
noncomputable def zt189:=bN (q1 P) (bN (q0 P) (zt169 P) (zt136 P)) (bN (q41 P) (zt188 P) (zt149 P))
noncomputable def q405:=oD 3 [eD P "s" 1077 (yS "uu" 1067),eD P "substring_i" 1079 (.int (-1) 1069),eD P "result" 1081 (.int (-1) 1071)]
noncomputable def zt184:=bN (q0 P) (bN (q138 P) (bL (q271 P)) (bL (q405 P))) (bN (q0 P) (bL (q337 P)) bZ)
noncomputable def q406 (P:Params):=oI 401
noncomputable def zt194:=bN (q75 P) (bN (q139 P) (bL (q272 P)) (bL (q406 P))) (bN (q1 P) (bL (q338 P)) bZ)
noncomputable def zt196:=bN (boot_o_10 P) (bN (q0 P) (bN (q27 P) (zt173 P) (zt139 P)) (bN (q0 P) (zt194 P) (zt153 P))) (bN (q19 P) (bN (q35 P) (zt195 P) (zt154 P)) (bN (q1 P) (zt128 P) (zt174 P)))
noncomputable def q407:=oK 4 [eD P "self" 1072 (.ref 402),eD P "s" 1073 (yS "uu" 1067),eD P "substring_i" 1074 (.int (-1) 1069),eD P "result" 1075 (.int (-1) 1071)]
noncomputable def zt181:=bN (q76 P) (bN (q140 P) (zt0 P) (bL (q407 P))) (bN (q206 P) (bL (q339 P)) bZ)
noncomputable def zt183:=bN (q0 P) (bN (q10 P) (bN (q28 P) (zt161 P) (zt133 P)) (bN (q1 P) (zt181 P) (zt143 P))) (bN (q20 P) (bN (q0 P) (zt182 P) (zt144 P)) (bN (q52 P) (zt134 P) (zt162 P)))
noncomputable def q408 (P:Params):Obj:=⟨(.type "list"),none,.seq [(.ref 393),(.ref 396),(.ref 399),(.ref 402)].toArray 0,[].toArray⟩
noncomputable def zt191:=bN (q77 P) (bN (q0 P) (zt1 P) (bL (q408 P))) (bN (q0 P) (bL (q340 P)) bZ)
noncomputable def zt193:=bN (q218 P) (bN (q11 P) (bN (q0 P) (zt171 P) (zt137 P)) (bN (q45 P) (zt191 P) (zt151 P))) (bN (q21 P) (bN (q1 P) (zt192 P) (zt152 P)) (bN (q0 P) (zt138 P) (zt172 P)))
noncomputable def trM6:BT:=(bN (boot_o_0 P) (bN (boot_o_1 P) (bN (q195 P) (bN (boot_o_7 P) (zt180 P) (zt160 P)) (zt183 P)) (bN (boot_o_5 P) (bN (boot_o_9 P) (bN (q8 P) (bN (q26 P) (zt163 P) (bN (q90 P) (zt54 P) (bN (q395 P) (bL (q354 P)) bZ))) (bN (q42 P) (zt184 P) (zt145 P))) (bN (q0 P) (bN (q34 P) (zt185 P) (zt146 P)) (bN (q0 P) (zt120 P) (zt164 P)))) (bN (q2 P) (zt167 P) (zt187 P)))) (bN (boot_o_2 P) (bN (boot_o_4 P) (bN (boot_o_8 P) (zt189 P) (bN (q17 P) (bN (q33 P) (zt190 P) (zt150 P)) (bN (q49 P) (zt124 P) (zt170 P)))) (zt193 P)) (bN (boot_o_6 P) (zt196 P) (bN (q3 P) (zt177 P) (zt198 P)))))
noncomputable def q409:=oD 13 [ze12 P,ze1 P,ze2 P,ze3 P,ze4 P,ze5 P,ze6 P,ze7 P,ze8 P,ze9 P,ze10 P,ze13 P,ze39 P]
noncomputable def q410 (P:Params):Obj:=⟨(.type "type"),none,.cls { name:=(.ofString "BaseStemmer"),bases:=[(.type "object")],mro:=[(.ref 197),(.type "object")],ns:=196,qualname:=(.ofString "BaseStemmer"),hasDict:=true,slotNames:=[],subclasses:=[(.ref 407)],abstract:=false,collection:=none,hasDel:=false },[none,none,some (yS "BaseStemmer" 196),some (yS "BaseStemmer" 204),some (.builtin "object.__new__"),some (.bool true)].toArray⟩
noncomputable def zt201:=bN (q62 P) (zt165 P) (bN (q410 P) (bL (q324 P)) bZ)
noncomputable def zt240:=bN (q62 P) (zt165 P) (bN (q410 P) (bL (q324 P)) (zt1 P))
noncomputable def q411:=oD 26 [ze15 P,ze16 P,ze17 P,ze18 P,ze19 P,ze20 P,ze21 P,ze22 P,ze23 P,ze24 P,ze25 P,ze26 P,ze27 P,ze28 P,ze29 P,ze30 P,ze31 P,ze32 P,ze33 P,ze34 P,ze35 P,ze36 P,ze37 P,ze38 P,eD P "a_5" 1082 (.ref 404),eD P "__static_attributes__" 1090 (.ref 405)]
noncomputable def zt212:=bN (q90 P) (bN (q154 P) (zt0 P) (zt0 P)) (bN (q411 P) (bL (q354 P)) bZ)
noncomputable def q412 (P:Params):=oT [(yS "B_e_found" 1083),(yS "I_p1" 1084),(yS "I_p2" 1085),(yS "bra" 1086),(yS "cursor" 1087),(yS "ket" 1088),(yS "limit_backward" 1089)]
noncomputable def zt202:=bN (q0 P) (bN (q1 P) (bL (q275 P)) (bL (q412 P))) (bN (q208 P) (bL (q341 P)) bZ)
noncomputable def q413:=oD 2 [ze15 P,ze17 P,ze18 P,ze19 P,ze20 P,ze21 P,ze22 P,ze23 P,ze24 P,ze25 P,ze26 P,ze27 P,ze28 P,ze29 P,ze30 P,ze31 P,ze32 P,ze33 P,ze34 P,ze35 P,ze36 P,ze37 P,ze38 P,eD P "a_5" 1082 (.ref 404),eD P "__static_attributes__" 1090 (.ref 405),eD P "__doc__" 1091 .none]
noncomputable def zt204:=bN (q1 P) (bN (q143 P) (zt0 P) (bL (q413 P))) (bN (q209 P) (bL (q342 P)) bZ)
noncomputable def q414 (P:Params):Obj:=⟨(.type "type"),none,.cls { name:=(.ofString "DutchPorterStemmer"),bases:=[(.ref 197)],mro:=[(.ref 407),(.ref 197),(.type "object")],ns:=406,qualname:=(.ofString "DutchPorterStemmer"),hasDict:=true,slotNames:=[],subclasses:=[],abstract:=false,collection:=none,hasDel:=false },[some (.ref 223),none,some (yS "DutchPorterStemmer" 473),some (yS "DutchPorterStemmer" 481),some (.builtin "object.__new__"),some (.bool true)].toArray⟩
noncomputable def zt199:=bN (q80 P) (bN (q0 P) (bL (q277 P)) (bL (q414 P))) (bN (q210 P) (bL (q343 P)) bZ)
noncomputable def q415 (P:Params):Obj:=⟨(.type "super"),none,.fields [(.ref 407),(.ref 407),(.ref 407)].toArray,[].toArray⟩
noncomputable def zt203:=bN (q0 P) (bN (q145 P) (bL (q278 P)) (bL (q415 P))) (bN (q211 P) (bL (q344 P)) bZ)
noncomputable def q416 (P:Params):Obj:=⟨(.type "builtin_function_or_method"),none,.fields [(.builtin "object.__init_subclass__"),(.ref 407)].toArray,[].toArray⟩
noncomputable def zt200:=bN (q82 P) (bN (q146 P) (bL (q279 P)) (bL (q416 P))) (bN (q212 P) (bL (q345 P)) bZ)
noncomputable def trC:BT:=(bN (boot_o_0 P) (bN (boot_o_1 P) (bN (q409 P) (bN (boot_o_7 P) (zt180 P) (bN (q16 P) (bN (q0 P) (zt158 P) (zt142 P)) (bN (q48 P) (zt199 P) (zt159 P)))) (zt183 P)) (bN (boot_o_5 P) (bN (boot_o_9 P) (bN (q8 P) (bN (q26 P) (zt163 P) (bN (q90 P) (zt54 P) (bN (q411 P) (bL (q354 P)) bZ))) (bN (q42 P) (zt184 P) (zt145 P))) (bN (q0 P) (bN (q34 P) (zt185 P) (zt146 P)) (bN (q0 P) (zt200 P) (zt164 P)))) (bN (q2 P) (bN (q12 P) (bN (q1 P) (zt201 P) (zt147 P)) (bN (q0 P) (zt202 P) (zt166 P))) (zt187 P)))) (bN (boot_o_2 P) (bN (boot_o_4 P) (bN (boot_o_8 P) (zt189 P) (bN (q17 P) (bN (q33 P) (zt190 P) (zt150 P)) (bN (q49 P) (zt203 P) (zt170 P)))) (zt193 P)) (bN (boot_o_6 P) (zt196 P) (bN (q3 P) (bN (q0 P) (bN (q31 P) (zt175 P) (zt155 P)) (bN (q47 P) (zt204 P) (zt176 P))) (zt198 P)))))
noncomputable def q417:Obj:=⟨.none,none,.dict [ze40 P,eD P "type.__subclasses__.Exception.n" 1111 (zI 2),ze41 P].toArray 3,[].toArray⟩
noncomputable def q418:=oD 15 [ze12 P,ze1 P,ze2 P,ze3 P,ze4 P,ze5 P,ze6 P,ze7 P,ze8 P,ze9 P,ze10 P,ze13 P,ze39 P,ze42 P,ze43 P]
noncomputable def q419 (P:Params):=oF [(zI 1),(zI 0),(.ref 20),(zI 5),(zI 0),(.ref 27),(zI 203),(zI 0),(.ref 207),(zI 210),(zI 0),(.ref 228),(zI 565),(zI 0),(.ref 415),(zI 567),(zI 0),(.ref 428)]
noncomputable def q420 (P:Params):=oT [(.type "Exception")]
noncomputable def zt207:=bN (q96 P) (bN (q160 P) (bL (q293 P)) (bL (q420 P))) (bN (gO1 P) (bL (q361 P)) bZ)
noncomputable def zt227:=bN (q83 P) (bN (q147 P) (zt0 P) (bL (q420 P))) (bN (q213 P) (bL (q346 P)) bZ)
noncomputable def zt237:=bN (q1 P) (bN (q122 P) (zt0 P) (bL (q388 P))) (bN (q186 P) (bL (q320 P)) (bL (q420 P)))
noncomputable def zt248:=bN (q0 P) (bN (q173 P) (bL (q307 P)) (bL (q420 P))) (bN (q242 P) (bL (q374 P)) bZ)
noncomputable def q422:=oD 4 [eD P "__module__" 1101 yM,eD P "__qualname__" 1103 (yS "lab0" 1102),eD P "__firstlineno__" 1105 (.int 565 1104),eD P "__static_attributes__" 1106 (.ref 417)]
noncomputable def zt223:=bN (q0 P) (bN (q1 P) (bL (q282 P)) (bL (q422 P))) (bN (q215 P) (bL (q349 P)) bZ)
noncomputable def q425 (P:Params):=oC [(yS "lab0" 1096),(yS "lab0" 1097),(yP 1098),(zI 565),(zI 0),(zI 0),(zI 0),(zI 0),(.ref 413),(.bool false),(zI 181),(.ref 414),.none,.none,.none,.none,(zI 1099),(zI 565),(yP 1100)]
noncomputable def zt205:=bN (q0 P) (bN (q152 P) (bL (q285 P)) (bL (q425 P))) (bN (q219 P) (bL (q352 P)) bZ)
noncomputable def q426 (P:Params):Obj:=⟨(.type "frame"),none,.plain,[some (.ref 415),some (.ref 3),some (.ref 412),none,some yM,none,some (.ref 0)].toArray⟩
noncomputable def zt218:=bN (q89 P) (bN (q153 P) (bL (q286 P)) (bL (q426 P))) (bN (q16 P) (bL (q353 P)) bZ)
noncomputable def zt263:=bN (q89 P) (bN (q153 P) (bL (q286 P)) (bL (q426 P))) (bN (q16 P) (bL (q353 P)) (zt0 P))
noncomputable def q428:=oD 3 [eD P "__module__" 1101 yM,eD P "__firstlineno__" 1105 (.int 565 1104),eD P "__static_attributes__" 1106 (.ref 417),eD P "__weakref__" 1108 (.ref 420),eD P "__doc__" 1109 .none]
noncomputable def zt224:=bN (q91 P) (bN (q0 P) (zt1 P) (bL (q428 P))) (bN (q0 P) (bL (q355 P)) bZ)
noncomputable def q429 (P:Params):Obj:=⟨(.type "type"),none,.cls { name:=(.ofString "lab0"),bases:=[(.type "Exception")],mro:=[(.ref 419),(.type "Exception"),(.type "BaseException"),(.type "object")],ns:=418,qualname:=(.ofString "lab0"),hasDict:=true,slotNames:=[],subclasses:=[],abstract:=false,collection:=none,hasDel:=false },[some (.ref 410),none,some (yS "lab0" 1094),some (yS "lab0" 1102),some (.builtin "Exception.__new__"),some (.bool true)].toArray⟩
noncomputable def zt208:=bN (q0 P) (bN (q1 P) (bL (q289 P)) (bL (q429 P))) (bN (q230 P) (bL (q356 P)) bZ)
noncomputable def q430 (P:Params):Obj:=⟨(.type "getset_descriptor"),none,.fields [(yS "__weakref__" 1107),(.ref 419),(.builtin "ExceptionGroup.__weakref__"),.none].toArray,[].toArray⟩
noncomputable def zt221:=bN (q1 P) (bN (q157 P) (zt0 P) (bL (q430 P))) (bN (q224 P) (bL (q357 P)) bZ)
noncomputable def zt265:=bN (q1 P) (bN (q157 P) (zt0 P) (bL (q430 P))) (bN (q224 P) (bL (q357 P)) (zt0 P))
noncomputable def q431 (P:Params):Obj:=⟨(.type "super"),none,.fields [(.ref 419),(.ref 419),(.ref 419)].toArray,[].toArray⟩
noncomputable def zt215:=bN (q94 P) (bN (q0 P) (bL (q291 P)) (bL (q431 P))) (bN (q225 P) (bL (q359 P)) bZ)
noncomputable def zt261:=bN (q94 P) (bN (q0 P) (bL (q291 P)) (bL (q431 P))) (bN (q225 P) (bL (q359 P)) (zt1 P))
noncomputable def q432 (P:Params):Obj:=⟨(.type "builtin_function_or_method"),none,.fields [(.builtin "object.__init_subclass__"),(.ref 419)].toArray,[].toArray⟩
noncomputable def zt228:=bN (q0 P) (bN (q159 P) (bL (q292 P)) (bL (q432 P))) (bN (gO0 P) (bL (q360 P)) bZ)
noncomputable def q435:=oD 4 [eD P "__module__" 1121 yM,eD P "__qualname__" 1123 (yS "lab1" 1122),eD P "__firstlineno__" 1125 (.int 567 1124),eD P "__static_attributes__" 1126 (.ref 430)]
noncomputable def zt214:=bN (q98 P) (bN (q0 P) (zt1 P) (bL (q435 P))) (bN (q0 P) (bL (q363 P)) bZ)
noncomputable def q438 (P:Params):=oC [(yS "lab1" 1116),(yS "lab1" 1117),(yP 1118),(zI 567),(zI 0),(zI 0),(zI 0),(zI 0),(.ref 426),(.bool false),(zI 181),(.ref 427),.none,.none,.none,.none,(zI 1119),(zI 567),(yP 1120)]
noncomputable def zt222:=bN (q101 P) (bN (q0 P) (bL (q298 P)) (bL (q438 P))) (bN (q0 P) (bL (q366 P)) bZ)
noncomputable def q439 (P:Params):Obj:=⟨(.type "frame"),none,.plain,[some (.ref 428),some (.ref 3),some (.ref 425),none,some yM,none,some (.ref 0)].toArray⟩
noncomputable def zt216:=bN (q0 P) (bN (q166 P) (bL (q299 P)) (bL (q439 P))) (bN (q235 P) (bL (q367 P)) bZ)
noncomputable def q441:=oD 3 [eD P "__module__" 1121 yM,eD P "__firstlineno__" 1125 (.int 567 1124),eD P "__static_attributes__" 1126 (.ref 430),eD P "__weakref__" 1128 (.ref 433),eD P "__doc__" 1129 .none]
noncomputable def zt206:=bN (q104 P) (bN (q168 P) (bL (q302 P)) (bL (q441 P))) (bN (q237 P) (bL (q369 P)) bZ)
noncomputable def q442 (P:Params):Obj:=⟨(.type "type"),none,.cls { name:=(.ofString "lab1"),bases:=[(.type "Exception")],mro:=[(.ref 432),(.type "Exception"),(.type "BaseException"),(.type "object")],ns:=431,qualname:=(.ofString "lab1"),hasDict:=true,slotNames:=[],subclasses:=[],abstract:=false,collection:=none,hasDel:=false },[some (.ref 423),none,some (yS "lab1" 1114),some (yS "lab1" 1122),some (.builtin "Exception.__new__"),some (.bool true)].toArray⟩
noncomputable def zt219:=bN (q105 P) (bN (q0 P) (bL (q303 P)) (bL (q442 P))) (bN (q0 P) (bL (q370 P)) bZ)
noncomputable def q443 (P:Params):Obj:=⟨(.type "getset_descriptor"),none,.fields [(yS "__weakref__" 1127),(.ref 432),(.builtin "ExceptionGroup.__weakref__"),.none].toArray,[].toArray⟩
noncomputable def zt213:=bN (q0 P) (bN (q1 P) (bL (q304 P)) (bL (q443 P))) (bN (q1 P) (bL (q371 P)) bZ)
noncomputable def q444 (P:Params):Obj:=⟨(.type "super"),none,.fields [(.ref 432),(.ref 432),(.ref 432)].toArray,[].toArray⟩
noncomputable def zt225:=bN (q1 P) (bN (q171 P) (bL (q305 P)) (bL (q444 P))) (bN (q240 P) (bL (q372 P)) bZ)
noncomputable def q445 (P:Params):Obj:=⟨(.type "builtin_function_or_method"),none,.fields [(.builtin "object.__init_subclass__"),(.ref 432)].toArray,[].toArray⟩
noncomputable def zt209:=bN (q108 P) (bN (q0 P) (bL (q306 P)) (bL (q445 P))) (bN (q0 P) (bL (q373 P)) bZ)
noncomputable def trG0:BT:=(bN (boot_o_0 P) (bN (boot_o_1 P) (bN (q418 P) (bN (boot_o_7 P) (bN (q0 P) (bN (q24 P) (zt157 P) (zt205 P)) (bN (q40 P) (zt179 P) (zt206 P))) (bN (q16 P) (bN (q0 P) (zt158 P) (zt207 P)) (bN (q48 P) (zt199 P) (zt159 P)))) (bN (q0 P) (bN (q10 P) (bN (q28 P) (zt161 P) (zt208 P)) (bN (q1 P) (zt181 P) (zt209 P))) (bN (q20 P) (bN (q0 P) (zt182 P) (zt210 P)) (bN (q52 P) (zt211 P) (zt162 P))))) (bN (boot_o_5 P) (bN (boot_o_9 P) (bN (q8 P) (bN (q26 P) (zt163 P) (zt212 P)) (bN (q42 P) (zt184 P) (zt213 P))) (bN (q0 P) (bN (q34 P) (zt185 P) (zt214 P)) (bN (q0 P) (zt200 P) (zt164 P)))) (bN (q2 P) (bN (q12 P) (bN (q1 P) (zt201 P) (zt215 P)) (bN (q0 P) (zt202 P) (zt166 P))) (bN (q0 P) (bN (q38 P) (zt186 P) (zt216 P)) (bN (q54 P) (zt217 P) (zt168 P)))))) (bN (q417 P) (bN (boot_o_4 P) (bN (boot_o_8 P) (bN (q1 P) (bN (q0 P) (zt169 P) (zt218 P)) (bN (q41 P) (zt188 P) (zt219 P))) (bN (q17 P) (bN (q33 P) (zt190 P) (zt220 P)) (bN (q49 P) (zt203 P) (zt170 P)))) (bN (q419 P) (bN (q11 P) (bN (q0 P) (zt171 P) (zt221 P)) (bN (q45 P) (zt191 P) (zt151 P))) (bN (q21 P) (bN (q1 P) (zt192 P) (zt222 P)) (bN (q0 P) (zt223 P) (zt172 P))))) (bN (boot_o_6 P) (bN (boot_o_10 P) (bN (q0 P) (bN (q27 P) (zt173 P) (zt224 P)) (bN (q0 P) (zt194 P) (zt225 P))) (bN (q19 P) (bN (q35 P) (zt195 P) (zt226 P)) (bN (q1 P) (zt227 P) (zt174 P)))) (bN (q3 P) (bN (q0 P) (bN (q31 P) (zt175 P) (zt228 P)) (bN (q47 P) (zt204 P) (zt176 P))) (bN (q1 P) (bN (q0 P) (zt197 P) (zt229 P)) (bN (q55 P) (zt230 P) (zt178 P)))))))
noncomputable def q446:Obj:=⟨.none,none,.dict [ze40 P,eD P "type.__subclasses__.Exception.n" 1111 (zI 4),ze41 P,eD P "type.__subclasses__.Exception.2" 1150 (zI 445),eD P "type.__subclasses__.Exception.3" 1170 (zI 458)].toArray 5,[].toArray⟩
noncomputable def q447:=oD 17 [ze12 P,ze1 P,ze2 P,ze3 P,ze4 P,ze5 P,ze6 P,ze7 P,ze8 P,ze9 P,ze10 P,ze13 P,ze39 P,ze42 P,ze43 P,ze44 P,ze45 P]
noncomputable def q448 (P:Params):=oF [(zI 1),(zI 0),(.ref 20),(zI 5),(zI 0),(.ref 27),(zI 203),(zI 0),(.ref 207),(zI 210),(zI 0),(.ref 228),(zI 565),(zI 0),(.ref 415),(zI 567),(zI 0),(.ref 428),(zI 569),(zI 0),(.ref 441),(zI 571),(zI 0),(.ref 454)]
noncomputable def q451:=oD 4 [eD P "__module__" 1141 yM,eD P "__qualname__" 1143 (yS "lab2" 1142),eD P "__firstlineno__" 1145 (.int 569 1144),eD P "__static_attributes__" 1146 (.ref 443)]
noncomputable def zt255:=bN (q111 P) (bN (q175 P) (bL (q309 P)) (bL (q451 P))) (bN (q244 P) (bL (q377 P)) bZ)
noncomputable def q454 (P:Params):=oC [(yS "lab2" 1136),(yS "lab2" 1137),(yP 1138),(zI 569),(zI 0),(zI 0),(zI 0),(zI 0),(.ref 439),(.bool false),(zI 181),(.ref 440),.none,.none,.none,.none,(zI 1139),(zI 569),(yP 1140)]
noncomputable def zt239:=bN (q1 P) (bN (q178 P) (bL (q312 P)) (bL (q454 P))) (bN (q247 P) (bL (q380 P)) bZ)
noncomputable def q455 (P:Params):Obj:=⟨(.type "frame"),none,.plain,[some (.ref 441),some (.ref 3),some (.ref 438),none,some yM,none,some (.ref 0)].toArray⟩
noncomputable def zt253:=bN (q115 P) (bN (q0 P) (bL (q313 P)) (bL (q455 P))) (bN (q0 P) (bL (q381 P)) bZ)
noncomputable def q457:=oD 3 [eD P "__module__" 1141 yM,eD P "__firstlineno__" 1145 (.int 569 1144),eD P "__static_attributes__" 1146 (.ref 443),eD P "__weakref__" 1148 (.ref 446),eD P "__doc__" 1149 .none]
noncomputable def zt250:=bN (q117 P) (bN (q181 P) (bL (q315 P)) (bL (q457 P))) (bN (q250 P) (bL (q383 P)) bZ)
noncomputable def q458 (P:Params):Obj:=⟨(.type "type"),none,.cls { name:=(.ofString "lab2"),bases:=[(.type "Exception")],mro:=[(.ref 445),(.type "Exception"),(.type "BaseException"),(.type "object")],ns:=444,qualname:=(.ofString "lab2"),hasDict:=true,slotNames:=[],subclasses:=[],abstract:=false,collection:=none,hasDel:=false },[some (.ref 436),none,some (yS "lab2" 1134),some (yS "lab2" 1142),some (.builtin "Exception.__new__"),some (.bool true)].toArray⟩
noncomputable def zt243:=bN (q118 P) (bN (q182 P) (bL (q316 P)) (bL (q458 P))) (bN (q251 P) (bL (q384 P)) bZ)
noncomputable def q459 (P:Params):Obj:=⟨(.type "getset_descriptor"),none,.fields [(yS "__weakref__" 1147),(.ref 445),(.builtin "ExceptionGroup.__weakref__"),.none].toArray,[].toArray⟩
noncomputable def zt256:=bN (q119 P) (bN (q0 P) (bL (q317 P)) (bL (q459 P))) (bN (q0 P) (bL (q385 P)) bZ)
noncomputable def q460 (P:Params):Obj:=⟨(.type "super"),none,.fields [(.ref 445),(.ref 445),(.ref 445)].toArray,[].toArray⟩
noncomputable def zt231:=bN (q56 P) (bN (q0 P) (zt1 P) (bL (q386 P))) (bN (q1 P) (bL (q318 P)) (bL (q460 P)))
noncomputable def q461 (P:Params):Obj:=⟨(.type "builtin_function_or_method"),none,.fields [(.builtin "object.__init_subclass__"),(.ref 445)].toArray,[].toArray⟩
noncomputable def zt244:=bN (q0 P) (bN (q1 P) (bL (q254 P)) (bL (q387 P))) (bN (q185 P) (bL (q319 P)) (bL (q461 P)))
noncomputable def q464:=oD 4 [eD P "__module__" 1161 yM,eD P "__qualname__" 1163 (yS "lab3" 1162),eD P "__firstlineno__" 1165 (.int 571 1164),eD P "__static_attributes__" 1166 (.ref 456)]
noncomputable def zt234:=bN (q0 P) (bN (q124 P) (bL (q257 P)) (bL (q390 P))) (bN (q188 P) (bL (q322 P)) (bL (q464 P)))
noncomputable def q467 (P:Params):=oC [(yS "lab3" 1156),(yS "lab3" 1157),(yP 1158),(zI 571),(zI 0),(zI 0),(zI 0),(zI 0),(.ref 452),(.bool false),(zI 181),(.ref 453),.none,.none,.none,.none,(zI 1159),(zI 571),(yP 1160)]
noncomputable def zt254:=bN (q63 P) (bN (q0 P) (zt1 P) (bL (q393 P))) (bN (q191 P) (bL (q325 P)) (bL (q467 P)))
noncomputable def q468 (P:Params):Obj:=⟨(.type "frame"),none,.plain,[some (.ref 454),some (.ref 3),some (.ref 451),none,some yM,none,some (.ref 0)].toArray⟩
noncomputable def zt232:=bN (q0 P) (bN (q1 P) (bL (q261 P)) (bL (q394 P))) (bN (q192 P) (bL (q326 P)) (bL (q468 P)))
noncomputable def q470:=oD 3 [eD P "__module__" 1161 yM,eD P "__firstlineno__" 1165 (.int 571 1164),eD P "__static_attributes__" 1166 (.ref 456),eD P "__weakref__" 1168 (.ref 459),eD P "__doc__" 1169 .none]
noncomputable def zt238:=bN (q34 P) (bN (q66 P) (bN (q0 P) (bL (q263 P)) (bL (q397 P))) (bN (q194 P) (bL (q328 P)) (bL (q470 P)))) (zt214 P)
noncomputable def q471 (P:Params):Obj:=⟨(.type "type"),none,.cls { name:=(.ofString "lab3"),bases:=[(.type "Exception")],mro:=[(.ref 458),(.type "Exception"),(.type "BaseException"),(.type "object")],ns:=457,qualname:=(.ofString "lab3"),hasDict:=true,slotNames:=[],subclasses:=[],abstract:=false,collection:=none,hasDel:=false },[some (.ref 449),none,some (yS "lab3" 1154),some (yS "lab3" 1162),some (.builtin "Exception.__new__"),some (.bool true)].toArray⟩
noncomputable def zt252:=bN (q35 P) (bN (q0 P) (bN (q131 P) (bL (q264 P)) (bL (q398 P))) (bN (q0 P) (bL (q329 P)) (bL (q471 P)))) (zt226 P)
noncomputable def q472 (P:Params):Obj:=⟨(.type "getset_descriptor"),none,.fields [(yS "__weakref__" 1167),(.ref 458),(.builtin "ExceptionGroup.__weakref__"),.none].toArray,[].toArray⟩
noncomputable def zt235:=bN (q0 P) (bN (q68 P) (bN (q132 P) (bL (q265 P)) (bL (q399 P))) (bN (q16 P) (bL (q330 P)) (bL (q472 P)))) (zt210 P)
noncomputable def q473 (P:Params):Obj:=⟨(.type "super"),none,.fields [(.ref 458),(.ref 458),(.ref 458)].toArray,[].toArray⟩
noncomputable def zt249:=bN (q1 P) (bN (q69 P) (bN (q133 P) (zt0 P) (bL (q400 P))) (bN (q199 P) (bL (q331 P)) (bL (q473 P)))) (zt222 P)
noncomputable def q474 (P:Params):Obj:=⟨(.type "builtin_function_or_method"),none,.fields [(.builtin "object.__init_subclass__"),(.ref 458)].toArray,[].toArray⟩
noncomputable def zt242:=bN (q38 P) (bN (q70 P) (bN (q0 P) (zt1 P) (bL (q401 P))) (bN (q0 P) (bL (q332 P)) (bL (q474 P)))) (zt216 P)
noncomputable def trG1:BT:=(bN (boot_o_0 P) (bN (boot_o_1 P) (bN (q447 P) (bN (boot_o_7 P) (bN (q0 P) (bN (q24 P) (zt231 P) (zt205 P)) (bN (q40 P) (zt179 P) (zt206 P))) (bN (q16 P) (bN (q0 P) (zt232 P) (zt207 P)) (bN (q48 P) (zt199 P) (zt233 P)))) (bN (q0 P) (bN (q10 P) (bN (q28 P) (zt234 P) (zt208 P)) (bN (q1 P) (zt181 P) (zt209 P))) (bN (q20 P) (zt235 P) (bN (q52 P) (zt211 P) (zt236 P))))) (bN (boot_o_5 P) (bN (boot_o_9 P) (bN (q8 P) (bN (q26 P) (zt237 P) (zt212 P)) (bN (q42 P) (zt184 P) (zt213 P))) (bN (q0 P) (zt238 P) (bN (q0 P) (zt200 P) (zt239 P)))) (bN (q2 P) (bN (q12 P) (bN (q1 P) (zt240 P) (zt215 P)) (bN (q0 P) (zt202 P) (zt241 P))) (bN (q0 P) (zt242 P) (bN (q54 P) (zt217 P) (zt243 P)))))) (bN (q446 P) (bN (boot_o_4 P) (bN (boot_o_8 P) (bN (q1 P) (bN (q0 P) (zt244 P) (zt218 P)) (bN (q41 P) (zt188 P) (zt219 P))) (bN (q17 P) (bN (q33 P) (zt245 P) (zt220 P)) (bN (q49 P) (zt203 P) (zt246 P)))) (bN (q448 P) (bN (q11 P) (bN (q0 P) (zt247 P) (zt221 P)) (bN (q45 P) (zt191 P) (zt248 P))) (bN (q21 P) (zt249 P) (bN (q0 P) (zt223 P) (zt250 P))))) (bN (boot_o_6 P) (bN (boot_o_10 P) (bN (q0 P) (bN (q27 P) (zt251 P) (zt224 P)) (bN (q0 P) (zt194 P) (zt225 P))) (bN (q19 P) (zt252 P) (bN (q1 P) (zt227 P) (zt253 P)))) (bN (q3 P) (bN (q0 P) (bN (q31 P) (zt254 P) (zt228 P)) (bN (q47 P) (zt204 P) (zt255 P))) (bN (q1 P) (bN (q0 P) (zt197 P) (zt229 P)) (bN (q55 P) (zt230 P) (zt256 P)))))))
noncomputable def q475:=oD 23 [eD P "__name__" 165 yL,ze1 P,ze2 P,ze3 P,ze4 P,ze5 P,ze6 P,ze7 P,ze8 P,ze9 P,ze10 P,ze13 P,ze39 P,ze42 P,ze43 P,ze44 P,ze45 P,ze46 P,eD P "_law_pieces" 1183 (.ref 468),eD P "_law_bare" 1189 (.ref 475),eD P "_law_vowels" 1197 (.ref 476),eD P "_law_word" 1209 (.ref 483),eD P "_law_marked" 1215 (.ref 488)]
noncomputable def q476 (P:Params):=oF [(zI 1),(zI 0),(.ref 20),(zI 5),(zI 0),(.ref 27),(zI 203),(zI 0),(.ref 207),(zI 210),(zI 0),(.ref 228),(zI 565),(zI 0),(.ref 415),(zI 567),(zI 0),(.ref 428),(zI 569),(zI 0),(.ref 441),(zI 571),(zI 0),(.ref 454),(zI 575),(zI 0),(.ref 467),(zI 577),(zI 0),(.ref 474),(zI 580),(zI 0),(.ref 482),(zI 588),(zI 0),(.ref 487)]
noncomputable def q481 (P:Params):=oV (fA 13 (.ofString "_law_pieces") 0 .none .none 0)
noncomputable def q482 (P:Params):=oC [(yS "_law_pieces" 1178),(yS "_law_pieces" 1179),(yP 1180),(zI 575),(zI 0),(zI 0),(zI 0),(zI 3),(.ref 462),(.bool true),(zI 181),(.ref 463),.none,(.ref 464),(.ref 465),(.ref 466),(zI 1181),(zI 575),(yP 1182)]
noncomputable def q483 (P:Params):=oU (fA 13 (.ofString "_law_pieces") 3 yL (.ref 467) 0)
noncomputable def q488 (P:Params):=oV (fA 14 (.ofString "_law_bare") 0 .none .none 0)
noncomputable def q489 (P:Params):=oC [(yS "_law_bare" 1184),(yS "_law_bare" 1185),(yP 1186),(zI 577),(zI 0),(zI 0),(zI 0),(zI 3),(.ref 469),(.bool true),(zI 181),(.ref 470),.none,(.ref 471),(.ref 472),(.ref 473),(zI 1187),(zI 577),(yP 1188)]
noncomputable def q490 (P:Params):=oU (fA 14 (.ofString "_law_bare") 3 yL (.ref 474) 0)
noncomputable def q491 (P:Params):Obj:=⟨(.type "list"),none,.seq [(yS "a" 1190),(yS "e" 1191),(yS "i" 1192),(yS "o" 1193),(yS "u" 1194),(yS "y" 1195),(yS "è" 1196)].toArray 0,[].toArray⟩
noncomputable def q494 (P:Params):=oT [(yS "numbers" 1201),(yS "most" 1202),(yS "word" 1203),(yS "number" 1204),(yS "k" 1205),(yS "piece" 1206)]
noncomputable def zt257:=bN (q0 P) (bN (q152 P) (bL (q285 P)) (bL (q425 P))) (bN (q219 P) (bL (q352 P)) (bL (q494 P)))
noncomputable def q496 (P:Params):=oV (fA 16 (.ofString "_law_word") 0 .none .none 0)
noncomputable def zt260:=bN (q90 P) (bN (q154 P) (zt0 P) (zt0 P)) (bN (q411 P) (bL (q354 P)) (bL (q496 P)))
noncomputable def q497 (P:Params):=oC [(yS "_law_word" 1198),(yS "_law_word" 1199),(yP 1200),(zI 580),(zI 2),(zI 0),(zI 0),(zI 3),(.ref 477),(.bool true),(zI 181),(.ref 478),.none,(.ref 479),(.ref 480),(.ref 481),(zI 1207),(zI 580),(yP 1208)]
noncomputable def zt266:=bN (q91 P) (bN (q0 P) (zt1 P) (bL (q428 P))) (bN (q0 P) (bL (q355 P)) (bL (q497 P)))
noncomputable def q498 (P:Params):=oU (fA 16 (.ofString "_law_word") 3 yL (.ref 482) 0)
noncomputable def zt259:=bN (q0 P) (bN (q1 P) (bL (q289 P)) (bL (q429 P))) (bN (q230 P) (bL (q356 P)) (bL (q498 P)))
noncomputable def q501 (P:Params):=oV (fA 17 (.ofString "_law_marked") 0 .none .none 0)
noncomputable def zt267:=bN (q0 P) (bN (q159 P) (bL (q292 P)) (bL (q432 P))) (bN (gO0 P) (bL (q360 P)) (bL (q501 P)))
noncomputable def q502 (P:Params):=oC [(yS "_law_marked" 1210),(yS "_law_marked" 1211),(yP 1212),(zI 588),(zI 1),(zI 0),(zI 0),(zI 3),(.ref 484),(.bool true),(zI 181),(.ref 485),.none,.none,.none,(.ref 486),(zI 1213),(zI 588),(yP 1214)]
noncomputable def zt258:=bN (q96 P) (bN (q160 P) (bL (q293 P)) (bL (q420 P))) (bN (gO1 P) (bL (q361 P)) (bL (q502 P)))
noncomputable def q503 (P:Params):=oU (fA 17 (.ofString "_law_marked") 3 yL (.ref 487) 0)
noncomputable def zt264:=bN (q97 P) (bN (q161 P) (zt0 P) (bL (q16 P))) (bN (gO2 P) (bL (q362 P)) (bL (q503 P)))
noncomputable def trG2:BT:=(bN (boot_o_0 P) (bN (boot_o_1 P) (bN (q475 P) (bN (boot_o_7 P) (bN (q0 P) (bN (q24 P) (zt231 P) (zt257 P)) (bN (q40 P) (bN (q1 P) (bN (q136 P) (zt0 P) (bL (q403 P))) (bN (q202 P) (bL (q334 P)) (zt1 P))) (zt206 P))) (bN (q16 P) (bN (q0 P) (zt232 P) (zt258 P)) (bN (q48 P) (bN (q80 P) (bN (q0 P) (bL (q277 P)) (bL (q414 P))) (bN (q210 P) (bL (q343 P)) (zt0 P))) (zt233 P)))) (bN (q0 P) (bN (q10 P) (bN (q28 P) (zt234 P) (zt259 P)) (bN (q1 P) (bN (q76 P) (bN (q140 P) (zt0 P) (bL (q407 P))) (bN (q206 P) (bL (q339 P)) (bL (q482 P)))) (zt209 P))) (bN (q20 P) (zt235 P) (bN (q52 P) (bN (q84 P) (bN (q0 P) (zt1 P) (bL (q16 P))) (bN (q214 P) (bL (q348 P)) (bL (q490 P)))) (zt236 P))))) (bN (boot_o_5 P) (bN (boot_o_9 P) (bN (q8 P) (bN (q26 P) (zt237 P) (zt260 P)) (bN (q42 P) (bN (q0 P) (bN (q138 P) (bL (q271 P)) (bL (q405 P))) (bN (q0 P) (bL (q337 P)) (zt0 P))) (zt213 P))) (bN (q0 P) (zt238 P) (bN (q0 P) (bN (q82 P) (bN (q146 P) (bL (q279 P)) (bL (q416 P))) (bN (q212 P) (bL (q345 P)) (bL (q488 P)))) (zt239 P)))) (bN (q2 P) (bN (q12 P) (bN (q1 P) (zt240 P) (zt261 P)) (bN (q0 P) (bN (q0 P) (bN (q1 P) (bL (q275 P)) (bL (q412 P))) (bN (q208 P) (bL (q341 P)) (zt0 P))) (zt241 P))) (bN (q0 P) (zt242 P) (bN (q54 P) (zt262 P) (zt243 P)))))) (bN (q446 P) (bN (boot_o_4 P) (bN (boot_o_8 P) (bN (q1 P) (bN (q0 P) (zt244 P) (zt263 P)) (bN (q41 P) (bN (q73 P) (bN (q0 P) (bL (q270 P)) (bL (q404 P))) (bN (q203 P) (bL (q335 P)) (zt0 P))) (zt219 P))) (bN (q17 P) (bN (q33 P) (zt245 P) (zt264 P)) (bN (q49 P) (bN (q0 P) (bN (q145 P) (bL (q278 P)) (bL (q415 P))) (bN (q211 P) (bL (q344 P)) (zt0 P))) (zt246 P)))) (bN (q476 P) (bN (q11 P) (bN (q0 P) (zt247 P) (zt265 P)) (bN (q45 P) (bN (q77 P) (bN (q0 P) (zt1 P) (bL (q408 P))) (bN (q0 P) (bL (q340 P)) (bL (q483 P)))) (zt248 P))) (bN (q21 P) (zt249 P) (bN (q0 P) (bN (q0 P) (bN (q1 P) (bL (q282 P)) (bL (q422 P))) (bN (q215 P) (bL (q349 P)) (bL (q491 P)))) (zt250 P))))) (bN (boot_o_6 P) (bN (boot_o_10 P) (bN (q0 P) (bN (q27 P) (zt251 P) (zt266 P)) (bN (q0 P) (bN (q75 P) (bN (q139 P) (bL (q272 P)) (bL (q406 P))) (bN (q1 P) (bL (q338 P)) (bL (q481 P)))) (zt225 P))) (bN (q19 P) (zt252 P) (bN (q1 P) (bN (q83 P) (bN (q147 P) (zt0 P) (bL (q420 P))) (bN (q213 P) (bL (q346 P)) (bL (q489 P)))) (zt253 P)))) (bN (q3 P) (bN (q0 P) (bN (q31 P) (zt254 P) (zt267 P)) (bN (q47 P) (bN (q1 P) (bN (q143 P) (zt0 P) (bL (q413 P))) (bN (q209 P) (bL (q342 P)) (zt1 P))) (zt255 P))) (bN (q1 P) (bN (q0 P) (bN (q0 P) (bN (q1 P) (bL (q268 P)) (bL (q402 P))) (bN (q201 P) (bL (q333 P)) (zt0 P))) (zt229 P)) (bN (q55 P) (zt268 P) (zt256 P)))))))
noncomputable def q504:=oD 31 [eD P "__name__" 165 yL,ze1 P,ze2 P,ze3 P,ze4 P,ze5 P,ze6 P,ze7 P,ze8 P,ze9 P,ze10 P,ze13 P,ze39 P,ze42 P,ze43 P,ze44 P,ze45 P,ze46 P,eD P "_law_pieces" 1183 (.ref 468),eD P "_law_bare" 1189 (.ref 475),eD P "_law_vowels" 1197 (.ref 476),eD P "_law_word" 1209 (.ref 483),eD P "_law_marked" 1215 (.ref 488),eD P "_law_regions" 1221 (.ref 493),eD P "_law_ending" 1231 (.ref 500),eD P "_law_shut" 1239 (.ref 507),eD P "_law_single" 1246 (.ref 514),eD P "_law_less_en" 1256 (.ref 521),eD P "_law_less_e" 1265 (.ref 528),eD P "_law_stem" 1271 (.ref 533),eD P "law" 1282 (.ref 540)]
noncomputable def q505 (P:Params):=oF [(zI 1),(zI 0),(.ref 20),(zI 5),(zI 0),(.ref 27),(zI 203),(zI 0),(.ref 207),(zI 210),(zI 0),(.ref 228),(zI 565),(zI 0),(.ref 415),(zI 567),(zI 0),(.ref 428),(zI 569),(zI 0),(.ref 441),(zI 571),(zI 0),(.ref 454),(zI 575),(zI 0),(.ref 467),(zI 577),(zI 0),(.ref 474),(zI 580),(zI 0),(.ref 482),(zI 588),(zI 0),(.ref 487),(zI 602),(zI 0),(.ref 492),(zI 607),(zI 0),(.ref 499),(zI 613),(zI 0),(.ref 506),(zI 615),(zI 0),(.ref 513),(zI 617),(zI 0),(.ref 520),(zI 622),(zI 0),(.ref 527),(zI 628),(zI 0),(.ref 532),(zI 666),(zI 0),(.ref 539)]
noncomputable def q508 (P:Params):=oV (fA 18 (.ofString "_law_regions") 0 .none .none 0)
noncomputable def q509 (P:Params):=oC [(yS "_law_regions" 1216),(yS "_law_regions" 1217),(yP 1218),(zI 602),(zI 1),(zI 0),(zI 0),(zI 3),(.ref 489),(.bool true),(zI 181),(.ref 490),.none,.none,.none,(.ref 491),(zI 1219),(zI 602),(yP 1220)]
noncomputable def q510 (P:Params):=oU (fA 18 (.ofString "_law_regions") 3 yL (.ref 492) 0)
noncomputable def q513 (P:Params):=oT [(yS "word" 1225),(yS "ends" 1226),(yS "found" 1227),(yS "end" 1228)]
noncomputable def q515 (P:Params):=oV (fA 19 (.ofString "_law_ending") 0 .none .none 0)
noncomputable def q516 (P:Params):=oC [(yS "_law_ending" 1222),(yS "_law_ending" 1223),(yP 1224),(zI 607),(zI 2),(zI 0),(zI 0),(zI 3),(.ref 494),(.bool true),(zI 181),(.ref 495),.none,(.ref 496),(.ref 497),(.ref 498),(zI 1229),(zI 607),(yP 1230)]
noncomputable def q517 (P:Params):=oU (fA 19 (.ofString "_law_ending") 3 yL (.ref 499) 0)
noncomputable def q520 (P:Params):=oT [(yS "stem" 1235),(yS "signs" 1236)]
noncomputable def q522 (P:Params):=oV (fA 20 (.ofString "_law_shut") 0 .none .none 0)
noncomputable def q523 (P:Params):=oC [(yS "_law_shut" 1232),(yS "_law_shut" 1233),(yP 1234),(zI 613),(zI 2),(zI 0),(zI 0),(zI 3),(.ref 501),(.bool true),(zI 181),(.ref 502),.none,(.ref 503),(.ref 504),(.ref 505),(zI 1237),(zI 613),(yP 1238)]
noncomputable def q524 (P:Params):=oU (fA 20 (.ofString "_law_shut") 3 yL (.ref 506) 0)
noncomputable def q527 (P:Params):=oT [(yS "stem" 1243)]
noncomputable def q529 (P:Params):=oV (fA 21 (.ofString "_law_single") 0 .none .none 0)
noncomputable def q530 (P:Params):=oC [(yS "_law_single" 1240),(yS "_law_single" 1241),(yP 1242),(zI 615),(zI 1),(zI 0),(zI 0),(zI 3),(.ref 508),(.bool true),(zI 181),(.ref 509),.none,(.ref 510),(.ref 511),(.ref 512),(zI 1244),(zI 615),(yP 1245)]
noncomputable def q531 (P:Params):=oU (fA 21 (.ofString "_law_single") 3 yL (.ref 513) 0)
noncomputable def q534 (P:Params):=oT [(yS "word" 1250),(yS "end" 1251),(yS "first" 1252),(yS "stem" 1253)]
noncomputable def q536 (P:Params):=oV (fA 22 (.ofString "_law_less_en") 0 .none .none 0)
noncomputable def q537 (P:Params):=oC [(yS "_law_less_en" 1247),(yS "_law_less_en" 1248),(yP 1249),(zI 617),(zI 3),(zI 0),(zI 0),(zI 3),(.ref 515),(.bool true),(zI 181),(.ref 516),.none,(.ref 517),(.ref 518),(.ref 519),(zI 1254),(zI 617),(yP 1255)]
noncomputable def q538 (P:Params):=oU (fA 22 (.ofString "_law_less_en") 3 yL (.ref 520) 0)
noncomputable def q541 (P:Params):=oT [(yS "word" 1260),(yS "first" 1261),(yS "stem" 1262)]
noncomputable def q543 (P:Params):=oV (fA 23 (.ofString "_law_less_e") 0 .none .none 0)
noncomputable def q544 (P:Params):=oC [(yS "_law_less_e" 1257),(yS "_law_less_e" 1258),(yP 1259),(zI 622),(zI 2),(zI 0),(zI 0),(zI 3),(.ref 522),(.bool true),(zI 181),(.ref 523),.none,(.ref 524),(.ref 525),(.ref 526),(zI 1263),(zI 622),(yP 1264)]
noncomputable def q545 (P:Params):=oU (fA 23 (.ofString "_law_less_e") 3 yL (.ref 527) 0)
noncomputable def q548 (P:Params):=oV (fA 24 (.ofString "_law_stem") 0 .none .none 0)
noncomputable def q549 (P:Params):=oC [(yS "_law_stem" 1266),(yS "_law_stem" 1267),(yP 1268),(zI 628),(zI 1),(zI 0),(zI 0),(zI 3),(.ref 529),(.bool true),(zI 181),(.ref 530),.none,.none,.none,(.ref 531),(zI 1269),(zI 628),(yP 1270)]
noncomputable def q550 (P:Params):=oU (fA 24 (.ofString "_law_stem") 3 yL (.ref 532) 0)
noncomputable def q553 (P:Params):=oT [(yS "script" 1275),(yS "first" 1276),(yS "second" 1277),(yS "third" 1278),(yS "stemmer" 1279)]
noncomputable def q555 (P:Params):=oV (fA 25 (.ofString "law") 0 .none .none 0)
noncomputable def q556 (P:Params):=oC [(yS "law" 1272),(yS "law" 1273),(yP 1274),(zI 666),(zI 1),(zI 0),(zI 0),(zI 3),(.ref 534),(.bool true),(zI 181),(.ref 535),.none,(.ref 536),(.ref 537),(.ref 538),(zI 1280),(zI 666),(yP 1281)]
noncomputable def q557 (P:Params):=oU (fA 25 (.ofString "law") 3 yL (.ref 539) 0)
noncomputable def trG3:BT:=(bN (boot_o_0 P) (bN (boot_o_1 P) (bN (q504 P) (bN (boot_o_7 P) (bN (q0 P) (bN (q24 P) (bN (q56 P) (bN (q0 P) (bN (q1 P) (zt0 P) bZ) (bL (q386 P))) (bN (q1 P) (bL (q318 P)) (bL (q460 P)))) (zt257 P)) (bN (q40 P) (bN (q1 P) (bN (q136 P) (bN (q0 P) (bL (q544 P)) bZ) (bL (q403 P))) (bN (q202 P) (bL (q334 P)) (zt1 P))) (bN (q104 P) (bN (q168 P) (bL (q302 P)) (bL (q441 P))) (bN (q237 P) (bL (q369 P)) (zt1 P))))) (bN (q16 P) (bN (q0 P) (bN (q0 P) (bN (q1 P) (bN (q261 P) (bL (q536 P)) bZ) (bL (q394 P))) (bN (q192 P) (bL (q326 P)) (bL (q468 P)))) (zt258 P)) (bN (q48 P) (bN (q80 P) (bN (q0 P) (bN (q277 P) (zt1 P) bZ) (bL (q414 P))) (bN (q210 P) (bL (q343 P)) (zt0 P))) (bN (q112 P) (bN (q0 P) (bL (q310 P)) (zt0 P)) (bN (q0 P) (bL (q378 P)) (bL (q520 P))))))) (bN (q0 P) (bN (q10 P) (bN (q28 P) (bN (q0 P) (bN (q124 P) (bN (q257 P) (zt0 P) bZ) (bL (q390 P))) (bN (q188 P) (bL (q322 P)) (bL (q464 P)))) (zt259 P)) (bN (q1 P) (bN (q76 P) (bN (q140 P) (bN (q0 P) (bL (q548 P)) bZ) (bL (q407 P))) (bN (q206 P) (bL (q339 P)) (bL (q482 P)))) (bN (q108 P) (bN (q0 P) (bL (q306 P)) (bL (q445 P))) (bN (q0 P) (bL (q373 P)) (bL (q516 P)))))) (bN (q20 P) (bN (q0 P) (bN (q68 P) (bN (q132 P) (bN (q265 P) (zt1 P) bZ) (bL (q399 P))) (bN (q16 P) (bL (q330 P)) (bL (q472 P)))) (bN (q1 P) (bN (q164 P) (zt0 P) (zt1 P)) (bN (q233 P) (bL (q365 P)) (bL (q508 P))))) (bN (q52 P) (bN (q84 P) (bN (q0 P) (bN (q1 P) (bL (q556 P)) bZ) (bL (q16 P))) (bN (q214 P) (bL (q348 P)) (bL (q490 P)))) (bN (q0 P) (bN (q180 P) (bL (q314 P)) (zt0 P)) (bN (q249 P) (bL (q382 P)) (bL (q524 P)))))))) (bN (boot_o_5 P) (bN (boot_o_9 P) (bN (q8 P) (bN (q26 P) (bN (q1 P) (bN (q122 P) (bN (q0 P) (bL (q530 P)) bZ) (bL (q388 P))) (bN (q186 P) (bL (q320 P)) (bL (q420 P)))) (zt260 P)) (bN (q42 P) (bN (q0 P) (bN (q138 P) (bN (q271 P) (zt0 P) bZ) (bL (q405 P))) (bN (q0 P) (bL (q337 P)) (zt0 P))) (bN (q0 P) (bN (q1 P) (bL (q304 P)) (bL (q443 P))) (bN (q1 P) (bL (q371 P)) (zt0 P))))) (bN (q0 P) (bN (q34 P) (bN (q66 P) (bN (q0 P) (bN (q263 P) (bL (q538 P)) bZ) (bL (q397 P))) (bN (q194 P) (bL (q328 P)) (bL (q470 P)))) (bN (q98 P) (bN (q0 P) (zt1 P) (bL (q435 P))) (bN (q0 P) (bL (q363 P)) (zt0 P)))) (bN (q0 P) (bN (q82 P) (bN (q146 P) (bN (q279 P) (zt0 P) bZ) (bL (q416 P))) (bN (q212 P) (bL (q345 P)) (bL (q488 P)))) (bN (q1 P) (bN (q178 P) (bL (q312 P)) (bL (q454 P))) (bN (q247 P) (bL (q380 P)) (bL (q522 P))))))) (bN (q2 P) (bN (q12 P) (bN (q1 P) (bN (q62 P) (bN (q126 P) (bN (q0 P) (bL (q534 P)) bZ) (bL (q392 P))) (bN (q410 P) (bL (q324 P)) (zt1 P))) (zt261 P)) (bN (q0 P) (bN (q0 P) (bN (q1 P) (bN (q275 P) (bL (q550 P)) bZ) (bL (q412 P))) (bN (q208 P) (bL (q341 P)) (zt0 P))) (bN (q110 P) (bN (q174 P) (bL (q308 P)) (bL (q16 P))) (bN (q243 P) (bL (q376 P)) (zt0 P))))) (bN (q0 P) (bN (q38 P) (bN (q70 P) (bN (q0 P) (bN (q1 P) (zt0 P) bZ) (bL (q401 P))) (bN (q0 P) (bL (q332 P)) (bL (q474 P)))) (bN (q0 P) (bN (q166 P) (bL (q299 P)) (bL (q439 P))) (bN (q235 P) (bL (q367 P)) (bL (q510 P))))) (bN (q54 P) (zt262 P) (bN (q118 P) (bN (q182 P) (bL (q316 P)) (bL (q458 P))) (bN (q251 P) (bL (q384 P)) (zt1 P)))))))) (bN (q446 P) (bN (boot_o_4 P) (bN (boot_o_8 P) (bN (q1 P) (bN (q0 P) (bN (q0 P) (bN (q1 P) (bN (q254 P) (bL (q529 P)) bZ) (bL (q387 P))) (bN (q185 P) (bL (q319 P)) (bL (q461 P)))) (zt263 P)) (bN (q41 P) (bN (q73 P) (bN (q0 P) (bN (q270 P) (bL (q545 P)) bZ) (bL (q404 P))) (bN (q203 P) (bL (q335 P)) (zt0 P))) (bN (q105 P) (bN (q0 P) (bL (q303 P)) (bL (q442 P))) (bN (q0 P) (bL (q370 P)) (bL (q513 P)))))) (bN (q17 P) (bN (q33 P) (bN (q1 P) (bN (q129 P) (bN (q0 P) (bL (q537 P)) bZ) (bL (q396 P))) (bN (q193 P) (bL (q327 P)) (zt0 P))) (zt264 P)) (bN (q49 P) (bN (q0 P) (bN (q145 P) (bN (q278 P) (bL (q553 P)) bZ) (bL (q415 P))) (bN (q211 P) (bL (q344 P)) (zt0 P))) (bN (q0 P) (bN (q1 P) (bL (q311 P)) (zt1 P)) (bN (q1 P) (bL (q379 P)) (zt0 P)))))) (bN (q505 P) (bN (q11 P) (bN (q0 P) (bN (q61 P) (bN (q125 P) (bN (q258 P) (zt1 P) bZ) (bL (q391 P))) (bN (q189 P) (bL (q323 P)) (zt0 P))) (zt265 P)) (bN (q45 P) (bN (q77 P) (bN (q0 P) (bN (q1 P) (bL (q549 P)) bZ) (bL (q408 P))) (bN (q0 P) (bL (q340 P)) (bL (q483 P)))) (bN (q0 P) (bN (q173 P) (bL (q307 P)) (bL (q420 P))) (bN (q242 P) (bL (q374 P)) (bL (q517 P)))))) (bN (q21 P) (bN (q1 P) (bN (q69 P) (bN (q133 P) (bN (q0 P) (bL (q541 P)) bZ) (bL (q400 P))) (bN (q199 P) (bL (q331 P)) (bL (q473 P)))) (bN (q101 P) (bN (q0 P) (bL (q298 P)) (bL (q438 P))) (bN (q0 P) (bL (q366 P)) (bL (q509 P))))) (bN (q0 P) (bN (q0 P) (bN (q1 P) (bN (q282 P) (bL (q557 P)) bZ) (bL (q422 P))) (bN (q215 P) (bL (q349 P)) (bL (q491 P)))) (bN (q117 P) (bN (q181 P) (bL (q315 P)) (bL (q457 P))) (bN (q250 P) (bL (q383 P)) (zt0 P))))))) (bN (boot_o_6 P) (bN (boot_o_10 P) (bN (q0 P) (bN (q27 P) (bN (q59 P) (bN (q0 P) (bN (q256 P) (bL (q531 P)) bZ) (bL (q389 P))) (bN (q187 P) (bL (q321 P)) (bL (q16 P)))) (zt266 P)) (bN (q0 P) (bN (q75 P) (bN (q139 P) (bN (q272 P) (zt1 P) bZ) (bL (q406 P))) (bN (q1 P) (bL (q338 P)) (bL (q481 P)))) (bN (q1 P) (bN (q171 P) (bL (q305 P)) (bL (q444 P))) (bN (q240 P) (bL (q372 P)) (bL (q515 P)))))) (bN (q19 P) (bN (q35 P) (bN (q0 P) (bN (q131 P) (bN (q264 P) (zt0 P) bZ) (bL (q398 P))) (bN (q0 P) (bL (q329 P)) (bL (q471 P)))) (bN (q0 P) (bN (q1 P) (bL (q296 P)) (zt0 P)) (bN (q1 P) (bL (q364 P)) (zt1 P)))) (bN (q1 P) (bN (q83 P) (bN (q147 P) (bN (q0 P) (bL (q555 P)) bZ) (bL (q420 P))) (bN (q213 P) (bL (q346 P)) (bL (q489 P)))) (bN (q115 P) (bN (q0 P) (bL (q313 P)) (bL (q455 P))) (bN (q0 P) (bL (q381 P)) (bL (q523 P))))))) (bN (q3 P) (bN (q0 P) (bN (q31 P) (bN (q63 P) (bN (q0 P) (bN (q1 P) (zt0 P) bZ) (bL (q393 P))) (bN (q191 P) (bL (q325 P)) (bL (q467 P)))) (zt267 P)) (bN (q47 P) (bN (q1 P) (bN (q143 P) (bN (q0 P) (zt0 P) bZ) (bL (q413 P))) (bN (q209 P) (bL (q342 P)) (zt1 P))) (bN (q111 P) (bN (q175 P) (bL (q309 P)) (bL (q451 P))) (bN (q244 P) (bL (q377 P)) (zt1 P))))) (bN (q1 P) (bN (q0 P) (bN (q0 P) (bN (q1 P) (bN (q268 P) (bL (q543 P)) bZ) (bL (q402 P))) (bN (q201 P) (bL (q333 P)) (zt0 P))) (bN (q103 P) (bN (q167 P) (bL (q300 P)) (zt0 P)) (bN (q236 P) (bL (q368 P)) (zt0 P)))) (bN (q55 P) (zt268 P) (bN (q119 P) (bN (q0 P) (bL (q317 P)) (bL (q459 P))) (bN (q0 P) (bL (q385 P)) (bL (q527 P))))))))))
end
end Mine
namespace Mine
noncomputable def bB:List Stmt:=behindTheImports pw
noncomputable def env1:Env:={ scope:=pw.main.scope,locals:=mainNs,globals:=mainNs,cells:=[],code:=.ref 13,frame:=some 14 }
noncomputable def cd0:Code:=.body bB env1
noncomputable def cbody:List Stmt:=bodyOf (at_ PW 6)
noncomputable def cenv:Env:={ scope:=scopeOf (at_ PW 6),locals:=225,globals:=3,cells:=[],qual:=(.ofString "DutchPorterStemmer."),code:=.ref 228,frame:=some 229,builtins:=0 }
noncomputable def cc:Code:=.body cbody cenv
noncomputable def fr0:Frame:=topFrame ⟨0,0,0,0⟩
noncomputable abbrev mkS (t:BT) (n k:Nat) (os:OsState):SharedT:=⟨t,n,{},#[],{},k,os⟩
noncomputable def posA:Pos:=⟨210,0,564,94⟩
noncomputable def runA (w:World) (os:OsState):=Fast.tw10295753902157049106 Fast.tw14364793385576792824 pw w 11 (some (.ref 6)) 1 64 (mkS (trP2 w.params) 223 473 os) ⟨(Fast.tw12563942051412417395 [at_ PW 6] env1).wrap doneF deadEnd id id,cd0,⟨209,0,209,8⟩,[fr0]⟩
noncomputable def K1 (w:World) (os:OsState):Result→Sem Fin:=match runA w os with
  | some (_,⟨_,_,_,.ret k _ _ _ _ _ _ :: _⟩)=>k
  | _=>fun _=>.unsupported ""
noncomputable def B1 (w:World) (os:OsState):List Frame:=[.ret (K1 w os) none false [.ref 197,.ref 223,.ref 223,.ref 225,.ref 229] cd0 posA [],fr0]
theorem runP0 (w:World) (os:OsState):segRunT treeTable pw w 11 (some (.ref 6)) 1 39 (mkS (trS w.params) 15 187 os) (piecesOf (PW.take 2) env1 cd0 ⟨0,0,0,0⟩ [fr0]) =
    some (.next,mkS (trP0 w.params) 22 196 os,cd0,⟨4,0,4,8⟩):=by
  unfold piecesOf
  rw [Fast.te10110043849684766642,Fast.te14364793385576792824,Fast.te12563942051412417395]
  kernel_rfl!
theorem runP1 (w:World) (os:OsState):segRunT treeTable pw w 11 (some (.ref 6)) 1 984 (mkS (trP0 w.params) 22 196 os) (piecesOf ((PW.drop 2).take 1) env1 cd0 ⟨4,0,4,8⟩ [fr0]) =
    some (.next,mkS (trP1 w.params) 202 436 os,cd0,⟨5,0,201,54⟩):=by
  unfold piecesOf
  rw [Fast.te10110043849684766642,Fast.te14364793385576792824,Fast.te12563942051412417395]
  kernel_rfl!
theorem runP2 (w:World) (os:OsState):segRunT treeTable pw w 11 (some (.ref 6)) 1 245 (mkS (trP1 w.params) 202 436 os) (piecesOf ((PW.drop 3).take 3) env1 cd0 ⟨5,0,201,54⟩ [fr0]) =
    some (.next,mkS (trP2 w.params) 223 473 os,cd0,⟨209,0,209,8⟩):=by
  unfold piecesOf
  rw [Fast.te10110043849684766642,Fast.te14364793385576792824,Fast.te12563942051412417395]
  kernel_rfl!
theorem runA_tw (w:World) (os:OsState):runA w os = some (mkS (trA w.params) 230 485 os,⟨Fast.tw11892475500146522536 Fast.tw14364793385576792824 cc,cc,posA,B1 w os⟩):=by
  kernel_rfl!
theorem runA_is (w:World) (os:OsState):segGoT treeTable pw w 11 (some (.ref 6)) 1 64 (mkS (trP2 w.params) 223 473 os) (piecesOf [at_ PW 6] env1 cd0 ⟨209,0,209,8⟩ [fr0]) =
    some (mkS (trA w.params) 230 485 os,⟨denote treeTable cc,cc,posA,B1 w os⟩):=by
  unfold piecesOf
  rw [Fast.te10295753902157049106,Fast.te14364793385576792824,Fast.te12563942051412417395,Fast.te11892475500146522536]
  exact runA_tw w os
theorem runM0 (w:World) (os:OsState):segRunT treeTable pw w 11 (some (.ref 6)) 2 356 (mkS (trB2 w.params (gO2 w.params)) 233 534 os) (piecesOf ((cbody.drop 3).take 13) cenv cc ⟨213,4,213,9⟩ (B1 w os)) =
    some (.next,mkS (trM0 w.params) 303 635 os,cc,⟨544,4,558,19⟩):=by
  unfold piecesOf
  rw [Fast.te10110043849684766642,Fast.te14364793385576792824,Fast.te12563942051412417395]
  kernel_rfl!
theorem runM1 (w:World) (os:OsState):segRunT treeTable pw w 11 (some (.ref 6)) 2 1832 (mkS (trM0 w.params) 303 635 os) (piecesOf ((cbody.drop 16).take 1) cenv cc ⟨544,4,558,19⟩ (B1 w os)) =
    some (.next,mkS (trM1 w.params) 337 780 os,cc,⟨559,4,559,7⟩):=by
  unfold piecesOf
  rw [Fast.te10110043849684766642,Fast.te14364793385576792824,Fast.te12563942051412417395]
  kernel_rfl!
theorem runM2 (w:World) (os:OsState):segRunT treeTable pw w 11 (some (.ref 6)) 2 512 (mkS (trM1 w.params) 337 780 os) (piecesOf ((cbody.drop 17).take 1) cenv cc ⟨559,4,559,7⟩ (B1 w os)) =
    some (.next,mkS (trM2 w.params) 347 821 os,cc,⟨560,4,560,7⟩):=by
  unfold piecesOf
  rw [Fast.te10110043849684766642,Fast.te14364793385576792824,Fast.te12563942051412417395]
  kernel_rfl!
theorem runM3 (w:World) (os:OsState):segRunT treeTable pw w 11 (some (.ref 6)) 2 537 (mkS (trM2 w.params) 347 821 os) (piecesOf ((cbody.drop 18).take 1) cenv cc ⟨560,4,560,7⟩ (B1 w os)) =
    some (.next,mkS (trM3 w.params) 357 867 os,cc,⟨561,4,561,7⟩):=by
  unfold piecesOf
  rw [Fast.te10110043849684766642,Fast.te14364793385576792824,Fast.te12563942051412417395]
  kernel_rfl!
theorem runM4 (w:World) (os:OsState):segRunT treeTable pw w 11 (some (.ref 6)) 2 857 (mkS (trM3 w.params) 357 867 os) (piecesOf ((cbody.drop 19).take 1) cenv cc ⟨561,4,561,7⟩ (B1 w os)) =
    some (.next,mkS (trM4 w.params) 373 937 os,cc,⟨562,4,562,7⟩):=by
  unfold piecesOf
  rw [Fast.te10110043849684766642,Fast.te14364793385576792824,Fast.te12563942051412417395]
  kernel_rfl!
theorem runM5 (w:World) (os:OsState):segRunT treeTable pw w 11 (some (.ref 6)) 2 1032 (mkS (trM4 w.params) 373 937 os) (piecesOf ((cbody.drop 20).take 1) cenv cc ⟨562,4,562,7⟩ (B1 w os)) =
    some (.next,mkS (trM5 w.params) 392 1022 os,cc,⟨563,4,563,7⟩):=by
  unfold piecesOf
  rw [Fast.te10110043849684766642,Fast.te14364793385576792824,Fast.te12563942051412417395]
  kernel_rfl!
theorem runM6 (w:World) (os:OsState):segRunT treeTable pw w 11 (some (.ref 6)) 2 712 (mkS (trM5 w.params) 392 1022 os) (piecesOf ((cbody.drop 21).take 1) cenv cc ⟨563,4,563,7⟩ (B1 w os)) =
    some (.next,mkS (trM6 w.params) 405 1083 os,cc,⟨564,4,564,7⟩):=by
  unfold piecesOf
  rw [Fast.te10110043849684766642,Fast.te14364793385576792824,Fast.te12563942051412417395]
  kernel_rfl!
theorem runC (w:World) (os:OsState):segRunT treeTable pw w 11 (some (.ref 6)) 1 175 (mkS (trM6 w.params) 405 1083 os) ⟨doneF .next,cc,⟨564,4,564,7⟩,B1 w os⟩ =
    some (.next,mkS (trC w.params) 410 1094 os,cd0,posA):=by
  rw [Fast.te10110043849684766642,Fast.te14364793385576792824]
  kernel_rfl!
theorem runG0 (w:World) (os:OsState):segRunT treeTable pw w 11 (some (.ref 6)) 1 393 (mkS (trC w.params) 410 1094 os) (piecesOf ((PW.drop 7).take 2) env1 cd0 ⟨210,0,564,94⟩ [fr0]) =
    some (.next,mkS (trG0 w.params) 436 1134 os,cd0,⟨567,0,568,8⟩):=by
  unfold piecesOf
  rw [Fast.te10110043849684766642,Fast.te14364793385576792824,Fast.te12563942051412417395]
  kernel_rfl!
theorem runG1 (w:World) (os:OsState):segRunT treeTable pw w 11 (some (.ref 6)) 1 393 (mkS (trG0 w.params) 436 1134 os) (piecesOf ((PW.drop 9).take 2) env1 cd0 ⟨567,0,568,8⟩ [fr0]) =
    some (.next,mkS (trG1 w.params) 462 1174 os,cd0,⟨571,0,572,8⟩):=by
  unfold piecesOf
  rw [Fast.te10110043849684766642,Fast.te14364793385576792824,Fast.te12563942051412417395]
  kernel_rfl!
theorem runG2 (w:World) (os:OsState):segRunT treeTable pw w 11 (some (.ref 6)) 1 152 (mkS (trG1 w.params) 462 1174 os) (piecesOf ((PW.drop 11).take 7) env1 cd0 ⟨571,0,572,8⟩ [fr0]) =
    some (.next,mkS (trG2 w.params) 489 1216 os,cd0,⟨588,0,601,26⟩):=by
  unfold piecesOf
  rw [Fast.te10110043849684766642,Fast.te14364793385576792824,Fast.te12563942051412417395]
  kernel_rfl!
theorem runG3 (w:World) (os:OsState):segRunT treeTable pw w 11 (some (.ref 6)) 1 240 (mkS (trG2 w.params) 489 1216 os) (piecesOf ((PW.drop 18).take 8) env1 cd0 ⟨588,0,601,26⟩ [fr0]) =
    some (.next,mkS (trG3 w.params) 541 1283 os,cd0,⟨666,0,673,86⟩):=by
  unfold piecesOf
  rw [Fast.te10110043849684766642,Fast.te14364793385576792824,Fast.te12563942051412417395]
  kernel_rfl!
end Mine
namespace Mine
noncomputable def HashRuns (w:World) (x:Str):Prop:=∀ (T:BT) (n k tk:Nat) (os:OsState) (pos:Pos) (gd:Bool→Bool) (lv:List Value→List Value),
  segRunT treeTable pw w 11 (some (.ref 6)) 2 20 (mkS T n k os) ⟨(pyHash (.str x tk)).wrap (fun h=>.pure (.done (.ret (.int h 0)))) deadEnd gd lv,cc,pos,B1 w os⟩ =
    some (.ret (.int (PyData.keyHash w.params x) 0),mkS T n (k+1) os,cc,pos)
theorem hash_0 (w:World):HashRuns w (.ofString "a"):=by
  refine byRow2 "special-get-raises" (P:=fun w=>HashRuns w (.ofString "a")) (fun w=>?_) (fun w=>?_) w
  all_goals
    intro T n k tk os pos gd lv
    rw [Fast.te10110043849684766642,Fast.te14364793385576792824,Fast.te10540108854288196387]
    kernel_rfl!
theorem hash_1 (w:World):HashRuns w (.ofString "e"):=by
  refine byRow2 "special-get-raises" (P:=fun w=>HashRuns w (.ofString "e")) (fun w=>?_) (fun w=>?_) w
  all_goals
    intro T n k tk os pos gd lv
    rw [Fast.te10110043849684766642,Fast.te14364793385576792824,Fast.te10540108854288196387]
    kernel_rfl!
theorem hash_2 (w:World):HashRuns w (.ofString "i"):=by
  refine byRow2 "special-get-raises" (P:=fun w=>HashRuns w (.ofString "i")) (fun w=>?_) (fun w=>?_) w
  all_goals
    intro T n k tk os pos gd lv
    rw [Fast.te10110043849684766642,Fast.te14364793385576792824,Fast.te10540108854288196387]
    kernel_rfl!
theorem hash_3 (w:World):HashRuns w (.ofString "o"):=by
  refine byRow2 "special-get-raises" (P:=fun w=>HashRuns w (.ofString "o")) (fun w=>?_) (fun w=>?_) w
  all_goals
    intro T n k tk os pos gd lv
    rw [Fast.te10110043849684766642,Fast.te14364793385576792824,Fast.te10540108854288196387]
    kernel_rfl!
theorem hash_4 (w:World):HashRuns w (.ofString "u"):=by
  refine byRow2 "special-get-raises" (P:=fun w=>HashRuns w (.ofString "u")) (fun w=>?_) (fun w=>?_) w
  all_goals
    intro T n k tk os pos gd lv
    rw [Fast.te10110043849684766642,Fast.te14364793385576792824,Fast.te10540108854288196387]
    kernel_rfl!
theorem hash_5 (w:World):HashRuns w (.ofString "y"):=by
  refine byRow2 "special-get-raises" (P:=fun w=>HashRuns w (.ofString "y")) (fun w=>?_) (fun w=>?_) w
  all_goals
    intro T n k tk os pos gd lv
    rw [Fast.te10110043849684766642,Fast.te14364793385576792824,Fast.te10540108854288196387]
    kernel_rfl!
theorem hash_6 (w:World):HashRuns w (.ofString "è"):=by
  refine byRow2 "special-get-raises" (P:=fun w=>HashRuns w (.ofString "è")) (fun w=>?_) (fun w=>?_) w
  all_goals
    intro T n k tk os pos gd lv
    rw [Fast.te10110043849684766642,Fast.te14364793385576792824,Fast.te10540108854288196387]
    kernel_rfl!
theorem hash_7 (w:World):HashRuns w (.ofString "I"):=by
  refine byRow2 "special-get-raises" (P:=fun w=>HashRuns w (.ofString "I")) (fun w=>?_) (fun w=>?_) w
  all_goals
    intro T n k tk os pos gd lv
    rw [Fast.te10110043849684766642,Fast.te14364793385576792824,Fast.te10540108854288196387]
    kernel_rfl!
theorem hash_8 (w:World):HashRuns w (.ofString "j"):=by
  refine byRow2 "special-get-raises" (P:=fun w=>HashRuns w (.ofString "j")) (fun w=>?_) (fun w=>?_) w
  all_goals
    intro T n k tk os pos gd lv
    rw [Fast.te10110043849684766642,Fast.te14364793385576792824,Fast.te10540108854288196387]
    kernel_rfl!
section
variable {w:World} {os:OsState}
theorem two_B1:(B1 w os).length = 2:=rfl
theorem lt_B1:1 < (B1 w os).length:=by rw [two_B1];decide
theorem gen_B1:splitAtGen (B1 w os) = none:=rfl
theorem hash_runs {x:Str} (h:HashRuns w x) (T:BT) (n k tk:Nat) (pos:Pos) :
    RunsTo pw w cc (B1 w os) 20 (pyHash (.str x tk)) (mkS T n k os).abs pos (PyData.keyHash w.params x) (mkS T n (k+1) os).abs pos:=
  RunsTo.of_seg (res:=fun h=>.ret (.int h 0)) gen_B1 lt_B1 (fun a' e=>by injection e with e;injection e) fun gd lv=>by
    rw [two_B1]
    exact segRun_of (h T n k tk os pos gd lv)
noncomputable def consts (k:Nat):List Str→List Value
  | []=>[]
  | x :: r=>.str x k :: consts (k+1) r
noncomputable def addAll (P:Params) (tk:Nat):List Str→SetSt→SetSt
  | [],st=>st
  | x :: r,st=>addAll P (tk+1) r (addSt P x tk st)
structure HoleT (a:Addr) (tr:Obj→BT) (n:Nat):Prop where
  big:Nat.ble 11 a = true
  lt:a < n
  get:∀ o,(tr o).get a = some o
  upd:∀ o f,(tr o).set a f = tr (f o)
theorem HoleT.hole {a:Addr} {tr:Obj→BT} {n:Nat} (h:HoleT a tr n):Hole a (fun o k=>(mkS (tr o) n k os).abs) where
  big:=h.big
  get:=fun x k=>abs_get h.lt (h.get (SO x))
  upd:=fun x y k f e=>by
    have q:=absHeap_set (n:=n) (life:=({}:Life)) (f:=f) (h.get (SO x))
    rw [h.upd,e] at q
    show ({ heap:=(absHeap (tr (SO x)) n {}).update a f,gens:=#[],drawn:={},toks:=k,os:=os }:Shared) = _
    rw [←q]
    rfl
  tok:=fun o k=>⟨rfl,rfl⟩
variable {a:Addr} {tr:Obj→BT} {n:Nat} {pos:Pos}
theorem consts_runs (spos:Pos) (env:Env) (T:BT) (n:Nat):∀ (xs:List Str) (k:Nat),
    RunsTo pw w cc (B1 w os) (2 * xs.length) (evalAll (xs.map fun x=>do let v ←constValue env (.str x);standAt spos;pure v)) (mkS T n k os).abs spos (consts k xs) (mkS T n (k+xs.length) os).abs spos
  | [],k=>RunsTo.pure
  | x :: r,k=>by
    have ih:=consts_runs spos env T n r (k+1)
    rw [show 2 * (x :: r).length = (1+(1+0))+(2 * r.length+0) by simp only [List.length_cons];omega,show k+(x :: r).length = k+1+r.length by simp only [List.length_cons];omega]
    show RunsTo pw w cc (B1 w os) _ ((do let v ←(do return Value.str x (←fresh):Sem Value);standAt spos;pure v) >>= fun v=>holding [v] (evalAll (r.map fun x=>do let v ←constValue env (.str x);standAt spos;pure v)) >>= fun l=>pure (v :: l)) _ _ _ _ _
    refine RunsTo.bind (a:=.str x k) (s':=(mkS T n (k+1) os).abs) (pos':=spos) ?_ ?_
    · refine RunsTo.bind (k:=1) (k':=1+0) (a:=.str x k) (s':=(mkS T n (k+1) os).abs) (pos':=spos) ?_ ?_
      · refine RunsTo.bind (k:=1) (k':=0) (RunsTo.fresh lt_B1) ?_
        exact RunsTo.pure
      · exact RunsTo.bind (k:=1) (k':=0) (RunsTo.standAt lt_B1) RunsTo.pure
    · exact RunsTo.bind (k':=0) (RunsTo.holding ih) RunsTo.pure
theorem adds_runs (H:HoleT a tr n):∀ (xs:List Str) (st:SetSt) (tk k m:Nat) (T:Str→Bool),(∀ x ∈ xs,HashRuns w x)→xs.Nodup→(∀ x ∈ xs,T x = false)→Bears w.params st T m→m+xs.length < scanBound→
    RunsTo pw w cc (B1 w os) (30 * xs.length) (forIn (consts tk xs) PUnit.unit fun x _=>do let _ ←setAdd a x;pure (ForInStep.yield PUnit.unit))
      (mkS (tr (SO st)) n k os).abs pos PUnit.unit (mkS (tr (SO (addAll w.params tk xs st))) n (k+xs.length) os).abs pos∧∃ T',Bears w.params (addAll w.params tk xs st) T' (m+xs.length)∧∀ y,T' y = (T y || decide (y ∈ xs))
  | [],st,tk,k,m,T,_,_,_,hb,_=>⟨RunsTo.pure,T,hb,fun y=>by simp⟩
  | x :: r,st,tk,k,m,T,hh,hn,hT,hb,hm=>by
    obtain ⟨hx,hr⟩:=List.nodup_cons.mp hn
    have hTx:=hT x (.head _)
    have ad:=add_runs (p:=pw) (w:=w) (c:=cc) (B:=B1 w os) (pos:=pos) (k:=k+1) (tk:=tk) lt_B1 (H.hole (os:=os)) hb hTx (by simp only [List.length_cons] at hm;omega)
    have hb1:=bears_add x tk hb
    obtain ⟨ih1,T',ih2,ih3⟩:=adds_runs H r (addSt w.params x tk st) (tk+1) (k+1) (m+1) _ (fun y hy=>hh y (.tail _ hy)) hr (fun y hy=>by
      have:y ≠ x:=fun e=>hx (e▸hy)
      simp [hT y (.tail _ hy),this]) hb1 (by simp only [List.length_cons] at hm;omega)
    refine ⟨?_,T',?_,fun y=>?_⟩
    · show RunsTo pw w cc (B1 w os) _ (forIn (Value.str x tk :: consts (tk+1) r) PUnit.unit _) _ _ _ _ _
      rw [List.forIn_cons,show 30 * (x :: r).length = ((20+10)+0)+(30 * r.length) by simp only [List.length_cons];omega,show k+(x :: r).length = k+1+r.length by simp only [List.length_cons];omega]
      refine RunsTo.bind (a:=ForInStep.yield PUnit.unit) (s':=(mkS (tr (SO (addSt w.params x tk st))) n (k+1) os).abs) (pos':=pos) ?_ ih1
      refine RunsTo.bind (a:=true) (s':=(mkS (tr (SO (addSt w.params x tk st))) n (k+1) os).abs) (pos':=pos) ?_ RunsTo.pure
      unfold setAdd
      refine RunsTo.holding ?_
      exact RunsTo.bind (hash_runs (hh x (.head _)) (tr (SO st)) n k tk pos) ad
    · rw [show m+(x :: r).length = m+1+r.length by simp only [List.length_cons];omega]
      exact ih2
    · rw [ih3 y]
      simp only [List.mem_cons,Bool.or_assoc,Bool.decide_or]
end
end Mine
namespace Mine
set_option maxHeartbeats 400000 in
theorem setStmt_runs {w:World} {os:OsState} {a:Addr} {tr:Obj→BT} {tr':Obj→BT} {T0:BT} {n k0 k1:Nat} {id:Str} {npos spos apos pos pos':Pos} {xs:List Str}
    {elts:List PySem.Expr} (H:HoleT a tr n)
    (he:starEach elts cenv = xs.map fun x=>(false,constValue cenv (.str x)))
    (hlen:elts.length = xs.length) (hroad:displayRoad 0 elts = .unsure) (h30:xs.length ≤ 30)
    (hpush:∀ o k,{ (mkS T0 a k os).abs with heap:=(mkS T0 a k os).abs.heap.push o } = (mkS (tr o) n k os).abs)
    (hmain:∃ b,RunsTo pw w cc (B1 w os) 10 (inMainModule cenv) (mkS T0 a k0 os).abs spos b (mkS T0 a k0 os).abs spos)
    (hh:∀ x ∈ xs,HashRuns w x) (hn:xs.Nodup)
    (hfin:∀ o,RunsTo pw w cc (B1 w os) 30 (assignAll (.ref a) [assign (.Name id npos) cenv]) (mkS (tr o) n (k0+xs.length+xs.length) os).abs spos () (mkS (tr' o) n k1 os).abs pos') :
    RunsTo pw w cc (B1 w os) (100+50 * xs.length) (exec (.Assign [.Name id npos] (.Set elts 0 spos) apos) cenv) (mkS T0 a k0 os).abs pos .next
      (mkS (tr' (SO (unledSt (addAll w.params k0 xs (st0 w.params))))) n k1 os).abs pos':=by
  obtain ⟨bm,hmain⟩:=hmain
  obtain ⟨hadd,T',hT1,hT2⟩:=adds_runs (w:=w) (os:=os) (pos:=spos) H xs (st0 w.params) k0 (k0+xs.length) 0 (fun _=>false) hh hn (fun _ _=>rfl) (bears_fresh _ _) (by have:scanBound = 4096:=rfl;omega)
  have hun:=unled_runs (p:=pw) (w:=w) (c:=cc) (B:=B1 w os) (pos:=spos) (k:=k0+xs.length+xs.length) lt_B1 (H.hole (os:=os)) hT1 (by have:scanBound = 4096:=rfl;omega)
  have hcons:=consts_runs (w:=w) (os:=os) spos cenv (tr (SO (st0 w.params))) n xs k0
  refine RunsTo.mono (k:=1+(0+((1+(10+(2+(2 * xs.length+(30 * xs.length+(1+(3+(0+0))))))))+(0+(30+0))))) ?_ (by omega)
  rw [arm_exec_Assign]
  refine RunsTo.bind (RunsTo.standAt lt_B1) ?_
  refine RunsTo.bind (k:=0) (a:=false) (m:=swapsWithSole _ _ _ _) RunsTo.pure ?_
  rw [if_neg Bool.false_ne_true]
  refine RunsTo.bind (a:=.ref a) (s':=(mkS (tr (SO (unledSt (addAll w.params k0 xs (st0 w.params))))) n (k0+xs.length+xs.length) os).abs) (pos':=spos) ?_ ?_
  · rw [arm_eval_Set]
    refine RunsTo.bind (RunsTo.standAt lt_B1) ?_
    refine RunsTo.bind hmain ?_
    rw [hroad,he]
    have hl:(xs.map fun x=>((false,constValue cenv (.str x)):Bool × Sem Value)).map (fun (star,t)=>(star,do let v ←t;standAt spos;pure v)) = xs.map fun x=>(false,do let v ←constValue cenv (.str x);standAt spos;pure v):=by
      rw [List.map_map];rfl
    rw [hl]
    unfold setDisplay
    dsimp only
    rw [if_neg (by decide)]
    refine RunsTo.bind (a:=.ref a) (s':=(mkS (tr (SO (st0 w.params))) n k0 os).abs) (pos':=spos) (k:=2) ?_ ?_
    · unfold newSet
      refine RunsTo.bind (k:=1) (k':=1) (a:=w.params.followText "set-order") (s':=(mkS T0 a k0 os).abs) (pos':=spos) ?_ ?_
      · unfold setsByText
        exact RunsTo.bind (k:=1) (k':=0) (RunsTo.ask lt_B1) RunsTo.pure
      · unfold newObj newObjAsIs
        dsimp only
        rw [if_neg (by decide)]
        refine RunsTo.bind (k:=1) (k':=0) (RunsTo.alloc lt_B1) ?_
        rw [show (mkS T0 a k0 os).abs.heap.objs.size = a from absHeap_size _ _ _]
        have:=hpush (SO (st0 w.params)) k0
        rw [←this]
        exact RunsTo.pure
    · dsimp only
      have hidx:(xs.map fun x=>((false,do let v ←constValue cenv (.str x);standAt spos;pure v):Bool × Sem Value)).findIdx? (·.1) = none:=by
        rw [List.findIdx?_eq_none_iff]
        intro y hy
        obtain ⟨_,_,rfl⟩:=List.mem_map.mp hy
        rfl
      have hnf:(if (xs.map fun x=>((false,do let v ←constValue cenv (.str x);standAt spos;pure v):Bool × Sem Value)).length > 30 then 0 else ((xs.map fun x=>((false,do let v ←constValue cenv (.str x);standAt spos;pure v):Bool × Sem Value)).findIdx? (·.1)).getD (xs.map fun x=>((false,do let v ←constValue cenv (.str x);standAt spos;pure v):Bool × Sem Value)).length) = (xs.map fun x=>((false,do let v ←constValue cenv (.str x);standAt spos;pure v):Bool × Sem Value)).length:=by
        rw [if_neg (by rw [List.length_map];omega),hidx];rfl
      rw [hnf,List.take_length,List.drop_length,List.map_map]
      refine RunsTo.mono (k:=(2 * xs.length+(30 * xs.length+(1+3)))+(0+0)) ?_ (by omega)
      refine RunsTo.bind (a:=()) (s':=(mkS (tr (SO (unledSt (addAll w.params k0 xs (st0 w.params))))) n (k0+xs.length+xs.length) os).abs) (pos':=spos) ?_ ?_
      · refine RunsTo.holding ?_
        refine RunsTo.bind hcons ?_
        refine RunsTo.mono (k:=(30 * xs.length+(1+3))+(0+0)) ?_ (by omega)
        refine RunsTo.bind (a:=()) (s':=(mkS (tr (SO (unledSt (addAll w.params k0 xs (st0 w.params))))) n (k0+xs.length+xs.length) os).abs) (pos':=spos) ?_ ?_
        · refine RunsTo.holding ?_
          refine RunsTo.bind hadd ?_
          rw [if_pos (show (DisplayRoad.unsure == DisplayRoad.unsure) = true from rfl)]
          exact RunsTo.bind (RunsTo.rule lt_B1) hun
        · rw [List.forIn_nil]
          exact RunsTo.bind (k:=0) (k':=0) RunsTo.pure RunsTo.pure
      · exact RunsTo.pure
  · refine RunsTo.bind (k:=0) (a:=none) RunsTo.pure ?_
    show RunsTo pw w cc (B1 w os) _ (do assignAll (Value.ref a) [assign (.Name id npos) cenv];pure Flow.next:Sem Flow) _ _ _ _ _
    exact RunsTo.bind (hfin _) RunsTo.pure
end Mine
namespace Mine
noncomputable def elts0:List PySem.Expr:=[.Constant (.str (.ofString "a")) 0 ⟨211,11,211,14⟩,.Constant (.str (.ofString "e")) 0 ⟨211,16,211,19⟩,.Constant (.str (.ofString "i")) 0 ⟨211,21,211,24⟩,.Constant (.str (.ofString "o")) 0 ⟨211,26,211,29⟩,.Constant (.str (.ofString "u")) 0 ⟨211,31,211,34⟩,.Constant (.str (.ofString "y")) 0 ⟨211,36,211,39⟩,.Constant (.str (.ofString "è")) 0 ⟨211,41,211,45⟩]
noncomputable def xs0:List Str:=[.ofString "a",.ofString "e",.ofString "i",.ofString "o",.ofString "u",.ofString "y",.ofString "è"]
theorem stmt0_is:at_ cbody 0 = .Assign [.Name (.ofString "g_v") ⟨211,4,211,7⟩] (.Set elts0 0 ⟨211,10,211,46⟩) ⟨211,4,211,46⟩:=by kernel_rfl!
theorem hole0 (P:Params):HoleT 230 (trN0 P) 231 where
  big:=rfl
  lt:=by decide
  get:=fun o=>by kernel_rfl!
  upd:=fun o f=>by kernel_rfl!
theorem push0 (w:World) (os:OsState) (o:Obj) (k:Nat):{ (mkS (trA w.params) 230 k os).abs with heap:=(mkS (trA w.params) 230 k os).abs.heap.push o } = (mkS (trN0 w.params o) 231 k os).abs:=by
  have e:((trA w.params)).ins 230 o = trN0 w.params o:=by kernel_rfl!
  have q:=absHeap_ins (t:=(trA w.params)) (n:=230) (life:=({}:Life)) (o:=o) (by rw [e,(hole0 w.params).get];rfl)
  rw [e] at q
  show ({ heap:=(absHeap (trA w.params) 230 {}).push o,gens:=#[],drawn:={},toks:=k,os:=os }:Shared) = _
  rw [←q]
  rfl
theorem fin0 (w:World) (os:OsState) (o:Obj):RunsTo pw w cc (B1 w os) 30 (assignAll (.ref 230) [assign (.Name (.ofString "g_v") ⟨211,4,211,7⟩) cenv]) (mkS (trN0 w.params o) 231 499 os).abs ⟨211,10,211,46⟩ () (mkS (trB0 w.params o) 231 500 os).abs ⟨211,4,211,7⟩:=
  RunsTo.of_seg (res:=fun _:Unit=>Flow.next) gen_B1 lt_B1 (fun _ _=>rfl) fun gd lv=>by
    rw [two_B1]
    refine segRun_of ?_
    rw [Fast.te10110043849684766642,Fast.te14364793385576792824]
    kernel_rfl!
theorem main0 (w:World) (os:OsState):∃ b,RunsTo pw w cc (B1 w os) 10 (inMainModule cenv) (mkS (trA w.params) 230 485 os).abs ⟨211,10,211,46⟩ b (mkS (trA w.params) 230 485 os).abs ⟨211,10,211,46⟩:=
  ⟨true,RunsTo.of_seg (res:=fun b:Bool=>Flow.ret (.bool b)) gen_B1 lt_B1 (fun a' e=>by injection e with e;injection e) fun gd lv=>by
    rw [two_B1]
    refine segRun_of ?_
    rw [Fast.te10110043849684766642,Fast.te14364793385576792824]
    kernel_rfl!⟩
theorem set0 (w:World) (os:OsState):RunsTo pw w cc (B1 w os) 500 (exec (at_ cbody 0) cenv) (mkS (trA w.params) 230 485 os).abs ⟨210,0,564,94⟩ .next (mkS (trB0 w.params (gO0 w.params)) 231 500 os).abs ⟨211,4,211,7⟩:=by
  rw [stmt0_is]
  exact (setStmt_runs (xs:=xs0) (hole0 w.params) rfl rfl rfl (by decide) (push0 w os) (main0 w os) (by
    intro x hx
    simp only [xs0,List.mem_cons,List.not_mem_nil,or_false] at hx
    rcases hx with rfl | rfl | rfl | rfl | rfl | rfl | rfl
    · exact hash_0 w
    · exact hash_1 w
    · exact hash_2 w
    · exact hash_3 w
    · exact hash_4 w
    · exact hash_5 w
    · exact hash_6 w) (by decide +kernel) (fin0 w os)).mono (by decide)
noncomputable def elts1:List PySem.Expr:=[.Constant (.str (.ofString "I")) 0 ⟨212,13,212,16⟩,.Constant (.str (.ofString "a")) 0 ⟨212,18,212,21⟩,.Constant (.str (.ofString "e")) 0 ⟨212,23,212,26⟩,.Constant (.str (.ofString "i")) 0 ⟨212,28,212,31⟩,.Constant (.str (.ofString "o")) 0 ⟨212,33,212,36⟩,.Constant (.str (.ofString "u")) 0 ⟨212,38,212,41⟩,.Constant (.str (.ofString "y")) 0 ⟨212,43,212,46⟩,.Constant (.str (.ofString "è")) 0 ⟨212,48,212,52⟩]
noncomputable def xs1:List Str:=[.ofString "I",.ofString "a",.ofString "e",.ofString "i",.ofString "o",.ofString "u",.ofString "y",.ofString "è"]
theorem stmt1_is:at_ cbody 1 = .Assign [.Name (.ofString "g_v_I") ⟨212,4,212,9⟩] (.Set elts1 0 ⟨212,12,212,53⟩) ⟨212,4,212,53⟩:=by kernel_rfl!
theorem hole1 (P:Params):HoleT 231 (trN1 P) 232 where
  big:=rfl
  lt:=by decide
  get:=fun o=>by kernel_rfl!
  upd:=fun o f=>by kernel_rfl!
theorem push1 (w:World) (os:OsState) (o:Obj) (k:Nat):{ (mkS (trB0 w.params (gO0 w.params)) 231 k os).abs with heap:=(mkS (trB0 w.params (gO0 w.params)) 231 k os).abs.heap.push o } = (mkS (trN1 w.params o) 232 k os).abs:=by
  have e:((trB0 w.params (gO0 w.params))).ins 231 o = trN1 w.params o:=by kernel_rfl!
  have q:=absHeap_ins (t:=(trB0 w.params (gO0 w.params))) (n:=231) (life:=({}:Life)) (o:=o) (by rw [e,(hole1 w.params).get];rfl)
  rw [e] at q
  show ({ heap:=(absHeap (trB0 w.params (gO0 w.params)) 231 {}).push o,gens:=#[],drawn:={},toks:=k,os:=os }:Shared) = _
  rw [←q]
  rfl
theorem fin1 (w:World) (os:OsState) (o:Obj):RunsTo pw w cc (B1 w os) 30 (assignAll (.ref 231) [assign (.Name (.ofString "g_v_I") ⟨212,4,212,9⟩) cenv]) (mkS (trN1 w.params o) 232 516 os).abs ⟨212,12,212,53⟩ () (mkS (trB1 w.params o) 232 517 os).abs ⟨212,4,212,9⟩:=
  RunsTo.of_seg (res:=fun _:Unit=>Flow.next) gen_B1 lt_B1 (fun _ _=>rfl) fun gd lv=>by
    rw [two_B1]
    refine segRun_of ?_
    rw [Fast.te10110043849684766642,Fast.te14364793385576792824]
    kernel_rfl!
theorem main1 (w:World) (os:OsState):∃ b,RunsTo pw w cc (B1 w os) 10 (inMainModule cenv) (mkS (trB0 w.params (gO0 w.params)) 231 500 os).abs ⟨212,12,212,53⟩ b (mkS (trB0 w.params (gO0 w.params)) 231 500 os).abs ⟨212,12,212,53⟩:=
  ⟨true,RunsTo.of_seg (res:=fun b:Bool=>Flow.ret (.bool b)) gen_B1 lt_B1 (fun a' e=>by injection e with e;injection e) fun gd lv=>by
    rw [two_B1]
    refine segRun_of ?_
    rw [Fast.te10110043849684766642,Fast.te14364793385576792824]
    kernel_rfl!⟩
theorem set1 (w:World) (os:OsState):RunsTo pw w cc (B1 w os) 500 (exec (at_ cbody 1) cenv) (mkS (trB0 w.params (gO0 w.params)) 231 500 os).abs ⟨211,4,211,7⟩ .next (mkS (trB1 w.params (gO1 w.params)) 232 517 os).abs ⟨212,4,212,9⟩:=by
  rw [stmt1_is]
  exact (setStmt_runs (xs:=xs1) (hole1 w.params) rfl rfl rfl (by decide) (push1 w os) (main1 w os) (by
    intro x hx
    simp only [xs1,List.mem_cons,List.not_mem_nil,or_false] at hx
    rcases hx with rfl | rfl | rfl | rfl | rfl | rfl | rfl | rfl
    · exact hash_7 w
    · exact hash_0 w
    · exact hash_1 w
    · exact hash_2 w
    · exact hash_3 w
    · exact hash_4 w
    · exact hash_5 w
    · exact hash_6 w) (by decide +kernel) (fin1 w os)).mono (by decide)
noncomputable def elts2:List PySem.Expr:=[.Constant (.str (.ofString "a")) 0 ⟨213,13,213,16⟩,.Constant (.str (.ofString "e")) 0 ⟨213,18,213,21⟩,.Constant (.str (.ofString "i")) 0 ⟨213,23,213,26⟩,.Constant (.str (.ofString "j")) 0 ⟨213,28,213,31⟩,.Constant (.str (.ofString "o")) 0 ⟨213,33,213,36⟩,.Constant (.str (.ofString "u")) 0 ⟨213,38,213,41⟩,.Constant (.str (.ofString "y")) 0 ⟨213,43,213,46⟩,.Constant (.str (.ofString "è")) 0 ⟨213,48,213,52⟩]
noncomputable def xs2:List Str:=[.ofString "a",.ofString "e",.ofString "i",.ofString "j",.ofString "o",.ofString "u",.ofString "y",.ofString "è"]
theorem stmt2_is:at_ cbody 2 = .Assign [.Name (.ofString "g_v_j") ⟨213,4,213,9⟩] (.Set elts2 0 ⟨213,12,213,53⟩) ⟨213,4,213,53⟩:=by kernel_rfl!
theorem hole2 (P:Params):HoleT 232 (trN2 P) 233 where
  big:=rfl
  lt:=by decide
  get:=fun o=>by kernel_rfl!
  upd:=fun o f=>by kernel_rfl!
theorem push2 (w:World) (os:OsState) (o:Obj) (k:Nat):{ (mkS (trB1 w.params (gO1 w.params)) 232 k os).abs with heap:=(mkS (trB1 w.params (gO1 w.params)) 232 k os).abs.heap.push o } = (mkS (trN2 w.params o) 233 k os).abs:=by
  have e:((trB1 w.params (gO1 w.params))).ins 232 o = trN2 w.params o:=by kernel_rfl!
  have q:=absHeap_ins (t:=(trB1 w.params (gO1 w.params))) (n:=232) (life:=({}:Life)) (o:=o) (by rw [e,(hole2 w.params).get];rfl)
  rw [e] at q
  show ({ heap:=(absHeap (trB1 w.params (gO1 w.params)) 232 {}).push o,gens:=#[],drawn:={},toks:=k,os:=os }:Shared) = _
  rw [←q]
  rfl
theorem fin2 (w:World) (os:OsState) (o:Obj):RunsTo pw w cc (B1 w os) 30 (assignAll (.ref 232) [assign (.Name (.ofString "g_v_j") ⟨213,4,213,9⟩) cenv]) (mkS (trN2 w.params o) 233 533 os).abs ⟨213,12,213,53⟩ () (mkS (trB2 w.params o) 233 534 os).abs ⟨213,4,213,9⟩:=
  RunsTo.of_seg (res:=fun _:Unit=>Flow.next) gen_B1 lt_B1 (fun _ _=>rfl) fun gd lv=>by
    rw [two_B1]
    refine segRun_of ?_
    rw [Fast.te10110043849684766642,Fast.te14364793385576792824]
    kernel_rfl!
theorem main2 (w:World) (os:OsState):∃ b,RunsTo pw w cc (B1 w os) 10 (inMainModule cenv) (mkS (trB1 w.params (gO1 w.params)) 232 517 os).abs ⟨213,12,213,53⟩ b (mkS (trB1 w.params (gO1 w.params)) 232 517 os).abs ⟨213,12,213,53⟩:=
  ⟨true,RunsTo.of_seg (res:=fun b:Bool=>Flow.ret (.bool b)) gen_B1 lt_B1 (fun a' e=>by injection e with e;injection e) fun gd lv=>by
    rw [two_B1]
    refine segRun_of ?_
    rw [Fast.te10110043849684766642,Fast.te14364793385576792824]
    kernel_rfl!⟩
theorem set2 (w:World) (os:OsState):RunsTo pw w cc (B1 w os) 500 (exec (at_ cbody 2) cenv) (mkS (trB1 w.params (gO1 w.params)) 232 517 os).abs ⟨212,4,212,9⟩ .next (mkS (trB2 w.params (gO2 w.params)) 233 534 os).abs ⟨213,4,213,9⟩:=by
  rw [stmt2_is]
  exact (setStmt_runs (xs:=xs2) (hole2 w.params) rfl rfl rfl (by decide) (push2 w os) (main2 w os) (by
    intro x hx
    simp only [xs2,List.mem_cons,List.not_mem_nil,or_false] at hx
    rcases hx with rfl | rfl | rfl | rfl | rfl | rfl | rfl | rfl
    · exact hash_0 w
    · exact hash_1 w
    · exact hash_2 w
    · exact hash_8 w
    · exact hash_3 w
    · exact hash_4 w
    · exact hash_5 w
    · exact hash_6 w) (by decide +kernel) (fin2 w os)).mono (by decide)
end Mine
namespace Mine
section
variable {w:World} {os:OsState}
theorem body_piece {n N:Nat} {s s':Shared} {l rest:List Stmt} {pos pos':Pos} {r:Flow × Shared × Code × Pos}
    (h:segRun treeTable pw w 11 (some (.ref 6)) 2 n s (piecesOf l cenv cc pos (B1 w os)) = some (.next,s',cc,pos'))
    (k:segRun treeTable pw w 11 (some (.ref 6)) 1 N s' ⟨(execs rest cenv).wrap doneF (leaveH cenv) id id,cc,pos',B1 w os⟩ = some r) :
    segRun treeTable pw w 11 (some (.ref 6)) 1 (n+N) s ⟨(execs (l ++ rest) cenv).wrap doneF (leaveH cenv) id id,cc,pos,B1 w os⟩ = some r:=by
  rw [execs_app_wrap]
  obtain ⟨a,ha,hN⟩:=seg_in (b:=1) (res:=id) (K':=fun f=>match f with | .next=>(execs rest cenv).wrap doneF (leaveH cenv) id id | f=>doneF f) (H':=leaveH cenv) (gd:=id) (lv:=id) (gen_B1 (w:=w) (os:=os)) lt_B1 n s
    (piecesOf l cenv cc pos (B1 w os)) ⟨(execs l cenv).wrap (fun f=>match f with | .next=>(execs rest cenv).wrap doneF (leaveH cenv) id id | f=>doneF f) (leaveH cenv) id id,cc,pos,B1 w os⟩ _ _ _ _ ⟨rfl,rfl,.inl ⟨rfl,rfl,_,rfl,rfl⟩⟩ h
  obtain rfl:a = .next:=ha
  exact hN N r k
theorem body_stmt {n N:Nat} {s s':Shared} {st:Stmt} {rest:List Stmt} {pos pos':Pos} {r:Flow × Shared × Code × Pos}
    (h:RunsTo pw w cc (B1 w os) n (exec st cenv) s pos .next s' pos')
    (k:segRun treeTable pw w 11 (some (.ref 6)) 1 N s' ⟨(execs rest cenv).wrap doneF (leaveH cenv) id id,cc,pos',B1 w os⟩ = some r) :
    segRun treeTable pw w 11 (some (.ref 6)) 1 (n+N) s ⟨(execs (st :: rest) cenv).wrap doneF (leaveH cenv) id id,cc,pos,B1 w os⟩ = some r:=by
  rw [execs_cons_wrap]
  exact h _ _ _ _ N r k
theorem cbody_is:cbody = at_ cbody 0 :: at_ cbody 1 :: at_ cbody 2 :: ((cbody.drop 3).take 13 ++ ((cbody.drop 16).take 1 ++ ((cbody.drop 17).take 1 ++ ((cbody.drop 18).take 1 ++ ((cbody.drop 19).take 1 ++ ((cbody.drop 20).take 1 ++ ((cbody.drop 21).take 1 ++ []))))))):=by kernel_rfl!
theorem blockStart_is:blockStart cbody cenv = pure ():=by kernel_rfl!
theorem runBody (w:World) (os:OsState):segRun treeTable pw w 11 (some (.ref 6)) 1 (500+(500+(500+(356+(1832+(512+(537+(857+(1032+(712+175)))))))))) (mkS (trA w.params) 230 485 os).abs ⟨denote treeTable cc,cc,posA,B1 w os⟩ =
    some (.next,(mkS (trC w.params) 410 1094 os).abs,cd0,posA):=by
  have e:denote treeTable cc = (execs cbody cenv).wrap doneF (leaveH cenv) id id:=by
    show denote treeTable (.body cbody cenv) = _
    rw [body_wrap,blockStart_is]
    rfl
  rw [e,cbody_is]
  refine body_stmt (set0 w os) (body_stmt (set1 w os) (body_stmt (set2 w os) ?_))
  refine body_piece (segRun_of (runM0 w os)) (body_piece (segRun_of (runM1 w os)) (body_piece (segRun_of (runM2 w os)) (body_piece (segRun_of (runM3 w os)) (body_piece (segRun_of (runM4 w os)) (body_piece (segRun_of (runM5 w os)) (body_piece (segRun_of (runM6 w os)) ?_))))))
  exact segRun_of (runC w os)
theorem runClass (w:World) (os:OsState):segRun treeTable pw w 11 (some (.ref 6)) 1 (64+(500+(500+(500+(356+(1832+(512+(537+(857+(1032+(712+175))))))))))) (mkS (trP2 w.params) 223 473 os).abs (piecesOf [at_ PW 6] env1 cd0 ⟨209,0,209,8⟩ [fr0]) =
    some (.next,(mkS (trC w.params) 410 1094 os).abs,cd0,posA):=seg_go (segGo_of (runA_is w os)) (runBody w os)
theorem bB_is:bB = PW.take 2 ++ ((PW.drop 2).take 1 ++ ((PW.drop 3).take 3 ++ ([at_ PW 6] ++ ((PW.drop 7).take 2 ++ ((PW.drop 9).take 2 ++ ((PW.drop 11).take 7 ++ ((PW.drop 18).take 8 ++ []))))))):=by kernel_rfl!
theorem preRun (w:World) (os:OsState):topGo treeTable pw w 11 (some (.ref 6)) 12 ⟨boot_heap w.params,#[],boot_drawn,boot_toks,os⟩ (topStub pw) =
    some ((mkS (trS w.params) 15 187 os).abs,⟨denote treeTable cd0,cd0,⟨0,0,0,0⟩,[fr0]⟩):=by
  rw [Fast.te15667345088766844465,Fast.te14364793385576792824,Fast.te11892475500146522536]
  kernel_rfl!
theorem blockRun (w:World) (os:OsState):segRun treeTable pw w 11 (some (.ref 6)) 1 1 (mkS (trS w.params) 15 187 os).abs (blockOf bB env1 cd0 ⟨0,0,0,0⟩ [fr0]) =
    some (.next,(mkS (trS w.params) 15 187 os).abs,cd0,⟨0,0,0,0⟩):=by kernel_rfl!
theorem finRun (w:World) (os:OsState):topRun treeTable pw w 11 (some (.ref 6)) 3 (mkS (trG3 w.params) 541 1283 os).abs ⟨doneF .next,cd0,⟨666,0,673,86⟩,[fr0]⟩ = some (mkS (trG3 w.params) 541 1283 os).abs:=by kernel_rfl!
noncomputable abbrev stepsC:Nat:=64+(500+(500+(500+(356+(1832+(512+(537+(857+(1032+(712+175))))))))))
noncomputable abbrev stepsAll:Nat:=12+(1+(39+(984+(245+(stepsC+(393+(393+(152+(240+3)))))))))
theorem topRuns (w:World) (os:OsState):topRun treeTable pw w 11 (some (.ref 6)) stepsAll ⟨boot_heap w.params,#[],boot_drawn,boot_toks,os⟩ (topStub pw) = some (mkS (trG3 w.params) 541 1283 os).abs:=by
  refine go_top (preRun w os) (piece_block (blockRun w os) ?_)
  rw [bB_is]
  exact piece_app (segRun_of (runP0 w os)) (piece_app (segRun_of (runP1 w os)) (piece_app (segRun_of (runP2 w os)) (piece_app (runClass w os) (piece_app (segRun_of (runG0 w os)) (piece_app (segRun_of (runG1 w os)) (piece_app (segRun_of (runG2 w os)) (piece_app (segRun_of (runG3 w os)) (piece_nil (finRun w os)))))))))
end
end Mine
namespace Mine
noncomputable def qv:Program:={ pw with main:={ pw.main with body:=[at_ PW 25] } }
noncomputable def looseV:List Str:=[.ofString "_wall",.ofString "BaseStemmer",.ofString "Among",.ofString "DutchPorterStemmer",.ofString "lab0",.ofString "lab1",.ofString "lab2",.ofString "lab3",.ofString "_law_signs",.ofString "_law_pieces",.ofString "_law_bare",.ofString "_law_vowels",.ofString "_law_word",.ofString "_law_marked",.ofString "_law_regions",.ofString "_law_ending",.ofString "_law_shut",.ofString "_law_single",.ofString "_law_less_en",.ofString "_law_less_e",.ofString "_law_stem"]
noncomputable def Hfin (P:Params):Heap:=absHeap (trG3 P) 541 {}
noncomputable def Xt0 (s:Shared):Bool:=xlAt qv [] s && recOk [] s
theorem openIs:opening pw = plainProg pw.main.scope.names:=by kernel_rfl!
theorem fenceIs (s:Shared):fenceModules? pw s = some s:=by kernel_rfl!
theorem openL:∀ w:World,(fencedOpening treeTable pw w 20000).map (fun s=>(s.heap,s.gens,s.drawn,s.toks)) = some (boot_heap w.params,Array.mk [],boot_drawn,boot_toks):=
  boot_open openIs (by decide) fenceIs
theorem sizeL (w:World):((boot_heap w.params).isNs mainGlobals && (#[]:Array GenState).size == 0,(boot_heap w.params).objs.size,(boot_heap w.params).nsMap mainGlobals "__annotations__") = (true,11,some (.ref 6)):=by kernel_rfl!
theorem look1 (w:World):staticsOk (importedModules pw.main.body) (boot_heap w.params) (Hfin w.params) = true:=by kernel_rfl!
theorem look2 (w:World):namesBound pw (Hfin w.params) = true:=by kernel_rfl!
theorem look3 (w:World) (os:OsState):gensDone ⟨Hfin w.params,#[],{},1283,os⟩ = true:=by kernel_rfl!
theorem look4 (w:World):laidKept (boot_heap w.params) (Hfin w.params) = true:=by kernel_rfl!
theorem look5 (w:World) (os:OsState):openSeen qv looseV (importedModules pw.main.body) Xt0 true ⟨Hfin w.params,#[],{},1283,os⟩ = openGood qv looseV:=by kernel_rfl!
theorem left0:LeftO pw qv looseV Xt0 (fun s=>s.heap) (fun w=>Hfin w.params) 20000:=
  LeftO.of_pieces (H₀:=boot_heap) (H₁:=Hfin) (gs₀:=#[]) (gs₁:=#[]) (d₀:=boot_drawn) (d₁:={}) (k₀:=boot_toks) (k₁:=1283) (m₀:=11) (ann:=some (.ref 6)) (M:=stepsAll) openL sizeL topRuns (by decide)
    (fun w=>by
      funext os
      rw [look1,look2,look3,look4,look5]
      rfl)
end Mine
namespace Mine
noncomputable def KK (P:Params):Frag:=(List.range 541).map fun i=>(i,((trG3 P).get i).getD (q1 P))
theorem kk_in (P:Params):(KK P).In (Hfin P):=Frag.in_of (as:=List.range 541) (by kernel_rfl!) (by kernel_rfl!)
theorem t1 (P:Params):nsIn (KK P) mainGlobals "DutchPorterStemmer" = some (some (.ref 407)):=by kernel_rfl!
theorem t2 (P:Params):findIn (KK P) (.ref 407) "__getattribute__" = some (some (.builtin "object.__getattribute__")):=by kernel_rfl!
theorem t3 (P:Params):findIn (KK P) (.ref 407) "__getattr__" = some none:=by kernel_rfl!
end Mine
namespace Mine
inductive Atom where
  | int (i:Int)
  | str (s:Str)
  | cst (v:Value)
  | me
  deriving Inhabited
inductive AV where
  | at (a:Atom)
  | list (l:List Atom)
  | tup (l:List Atom)
  | own (l:List Atom)
  | dict (l:List (Str × Str))
  | rng (lo hi st:Int)
  deriving Inhabited
noncomputable abbrev FL:=List (Option Atom)
structure AS where
  loc:List (Option AV)
  fl:FL
inductive Bop where | add | sub | mod | shr deriving DecidableEq
inductive Cop where | lt | le | gt | ge | eq | ne | isin | notin deriving DecidableEq
mutual
inductive CE where
  | var (i:Nat)
  | int (n:Int)
  | neg (n:Int)
  | str (s:Str)
  | bool (b:Bool)
  | glob (x:Str)
  | fld (i:Nat)
  | cattr (x:Str)
  | amo (e:CE) (x:Str)
  | bin (o:Bop) (a b:CE)
  | cmp (o:Cop) (a b:CE)
  | not (a:CE)
  | and (l:CA)
  | or (l:CA)
  | ite (t a b:CE)
  | idx (a b:CE)
  | sliceTo (a hi:CE)
  | sliceFrom (a lo:CE)
  | slice (a lo hi:CE)
  | len (a:CE)
  | ord (a:CE)
  | min (a b:CE)
  | max (a b:CE)
  | range (l:CA)
  | endswith (a b:CE)
  | join (a:CE)
  | list (l:CA)
  | tup (l:CA)
  | dict (l:List (Str × Str))
  | callG (f:Nat) (l:CA)
  | callM (i:Nat) (f:Nat) (l:CA)
  | comp (elt src:CE) (caps:List Nat)
  | compIf (elt src cond:CE) (caps:List Nat)
inductive CA where
  | nil
  | cons (e:CE) (r:CA)
end
mutual
inductive CS where
  | assign (i:Nat) (e:CE)
  | assign2 (i j:Nat) (e:CE)
  | setf (i:Nat) (e:CE)
  | augf (i:Nat) (o:Bop) (e:CE)
  | aug (i:Nat) (o:Bop) (e:CE)
  | expr (e:CE)
  | append (i:Nat) (e:CE)
  | newOwn (i:Nat)
  | ite (t:CE) (a b:CB)
  | while (t:CE) (b:CB)
  | for (i:Nat) (e:CE) (b:CB)
  | try (k:Nat) (b:CB)
  | raise (k:Nat)
  | ret (e:CE)
  | pass
  | brk
  | cont
  | assert (e:CE)
inductive CB where
  | nil
  | cons (s:CS) (r:CB)
end
inductive Out where
  | next | brk | cont
  | ret (v:AV)
  | exc (k:Nat)
  deriving Inhabited
noncomputable def AV.isOwn:AV→Bool
  | .own _=>true
  | _=>false
noncomputable def AV.isSt:AV→Bool
  | .at _=>true
  | .list _=>true
  | .tup _=>true
  | _=>false
noncomputable def AV.isDR:AV→Bool
  | .dict _=>true
  | .rng ..=>true
  | _=>false
noncomputable def small (n:Nat):Bool:=decide (n ≤ 100000)
noncomputable def ab (b:Bool):AV:=.at (.cst (.bool b))
noncomputable def ai (i:Int):AV:=.at (.int i)
noncomputable def as (s:Str):AV:=.at (.str s)
noncomputable def chr1 (c:Nat):Str:=⟨#[c]⟩
section
variable {β:Type}
noncomputable def onI (v:AV) (A:Int→Option β) (B:Option β):Option β:=match v with
  | .at (.int i)=>A i
  | _=>B
noncomputable def onS (v:AV) (A:Str→Option β) (B:Option β):Option β:=match v with
  | .at (.str i)=>A i
  | _=>B
noncomputable def onR (v:AV) (A:Addr→Option β) (B:Option β):Option β:=match v with
  | .at (.cst (.ref i))=>A i
  | _=>B
noncomputable def onL (v:AV) (A:List Atom→Option β) (B:Option β):Option β:=match v with
  | .list i=>A i
  | _=>B
noncomputable def onO (v:AV) (A:List Atom→Option β) (B:Option β):Option β:=match v with
  | .own i=>A i
  | _=>B
noncomputable def onD (v:AV) (A:List (Str × Str)→Option β) (B:Option β):Option β:=match v with
  | .dict i=>A i
  | _=>B
noncomputable def onG (v:AV) (A:Int→Int→Int→Option β) (B:Option β):Option β:=match v with
  | .rng x y z=>A x y z
  | _=>B
noncomputable def iff (b:Bool) (A:Option β):Option β:=match b with
  | true=>A
  | false=>none
end
noncomputable def binI:Bop→Int→Int→Option Int
  | .add,x,y=>some (x+y)
  | .sub,x,y=>some (x - y)
  | .mod,x,y=>iff (decide (0 < y)) (some (x.fmod y))
  | .shr,x,y=>iff (decide (y = 1)) (some (x.fdiv 2))
noncomputable def addS (x y:Str):Option AV:=iff (small (x.length+y.length)) (some (as (x ++ y)))
noncomputable def addL (x y:List Atom):Option AV:=iff (small (x.length+y.length)) (some (.list (x ++ y)))
noncomputable def isAdd:Bop→Bool
  | .add=>true
  | _=>false
noncomputable def binV (o:Bop) (x y:AV):Option AV:=
  onI x (fun i=>onI y (fun j=>(binI o i j).map ai) none) (iff (isAdd o) (onS x (fun s=>onS y (addS s) none) (onL x (fun s=>onL y (addL s) none) none)))
noncomputable def dictGet (x:Str):List (Str × Str)→Option Str
  | []=>none
  | (k,v) :: r=>if k = x then some v else dictGet x r
noncomputable def tabGet {β:Type} (a:Nat):List (Nat × β)→Option β
  | []=>none
  | (k,v) :: r=>match decide (k = a) with
    | true=>some v
    | false=>tabGet a r
noncomputable def setTab:List (Nat × List Str):=[(230,[chr1 97,chr1 101,chr1 105,chr1 111,chr1 117,chr1 121,chr1 232]),(231,[chr1 73,chr1 97,chr1 101,chr1 105,chr1 111,chr1 117,chr1 121,chr1 232]),(232,[chr1 97,chr1 101,chr1 105,chr1 106,chr1 111,chr1 117,chr1 121,chr1 232])]
noncomputable def setAt (a:Addr):Option (List Str):=tabGet a setTab
noncomputable def augI:Bop→Int→Int→Option Int
  | .add,x,y=>some (x+y)
  | .sub,x,y=>some (x - y)
  | _,_,_=>none
noncomputable def augV (o:Bop) (x y:AV):Option AV:=onI x (fun i=>onI y (fun j=>(augI o i j).map ai) none) none
noncomputable def strsOf:List Atom→Option (List Str)
  | []=>some []
  | .str x :: r=>(strsOf r).map (x :: ·)
  | _ :: _=>none
noncomputable def inV (x:Str) (y:AV):Option Bool:=
  onL y (fun l=>(strsOf l).map fun xs=>xs.any (· == x)) (onD y (fun l=>some (dictGet x l).isSome) (onR y (fun a=>(setAt a).map fun l=>l.contains x) none))
noncomputable def cmpI:Cop→Int→Int→Option Bool
  | .lt,x,y=>some (decide (x < y))
  | .le,x,y=>some (decide (x ≤ y))
  | .gt,x,y=>some (decide (x > y))
  | .ge,x,y=>some (decide (x ≥ y))
  | .eq,x,y=>some (x == y)
  | .ne,x,y=>some (x != y)
  | _,_,_=>none
noncomputable def cmpS:Cop→Str→AV→Option Bool
  | .eq,x,y=>onS y (fun z=>some (x == z)) none
  | .ne,x,y=>onS y (fun z=>some (x != z)) none
  | .isin,x,y=>inV x y
  | .notin,x,y=>(inV x y).map (!·)
  | _,_,_=>none
noncomputable def cmpL:Cop→List Atom→List Atom→Option Bool
  | .eq,x,y=>(strsOf x).bind fun a=>(strsOf y).bind fun b=>iff (decide (a = b)) (some true)
  | _,_,_=>none
noncomputable def cmpV (o:Cop) (x y:AV):Option Bool:=onI x (fun i=>onI y (cmpI o i) none) (onS x (fun s=>cmpS o s y) (onL x (fun l=>onL y (cmpL o l) none) none))
noncomputable def items (v:AV):Option (List Atom):=onL v some (onO v some none)
noncomputable def amoTab:List (Nat × List Addr):=[(336,[304,307,310,313,316,319,322,325,328,331,334]),(346,[338,341,344]),(356,[348,351,354]),(372,[358,361,364,367,370]),(391,[374,377,380,383,386,389]),(404,[393,396,399,402])]
noncomputable def amoList (a:Addr):Option (List Addr):=tabGet a amoTab
noncomputable def getAt (i:Nat) (l:List Atom):Option AV:=iff (small l.length) ((l[i]?).map .at)
noncomputable def idxI (x:AV) (i:Nat):Option AV:=
  onS x (fun s=>iff (small s.length) ((s.cps[i]?).map fun c=>as (chr1 c))) (onL x (getAt i) (onO x (getAt i) (onR x (fun a=>(amoList a).bind fun l=>(l[i]?).map fun b=>.at (.cst (.ref b))) none)))
noncomputable def idxV (x y:AV):Option AV:=onI y (fun i=>iff (decide (0 ≤ i)) (idxI x i.toNat)) (onS y (fun k=>onD x (fun l=>(dictGet k l).map as) none) none)
noncomputable def cut {α:Type} (l:List α) (lo hi:Option Int):List α:=(match hi with | some h=>l.take h.toNat | none=>l).drop (lo.getD 0).toNat
noncomputable def cutOk (n:Nat) (lo hi:Option Int):Bool:=small n && (decide (0 ≤ lo.getD 0) && (decide (0 ≤ hi.getD 0) && (decide (lo.getD 0 < 2 ^ 62) && decide (hi.getD 0 < 2 ^ 62))))
noncomputable def sliceV (x:AV) (lo hi:Option Int):Option AV:=
  onS x (fun s=>iff (cutOk s.length lo hi) (some (as ⟨(cut s.cps.toList lo hi).toArray⟩))) (onL x (fun l=>iff (cutOk l.length lo hi) (some (.list (cut l lo hi)))) none)
noncomputable def lenV (x:AV):Option AV:=onS x (fun s=>iff (small s.length) (some (ai s.length))) (onL x (fun l=>iff (small l.length) (some (ai l.length))) (onR x (fun a=>(amoList a).map fun l=>ai l.length) none))
noncomputable def joinL (l:List Atom):Option AV:=(strsOf l).bind fun xs=>iff (small (xs.map (·.length)).sum) (some (as ⟨(xs.flatMap (·.cps.toList)).toArray⟩))
noncomputable def joinV (x:AV):Option AV:=onL x joinL (onO x joinL none)
noncomputable def endsV (x y:AV):Option AV:=onS x (fun s=>onS y (fun z=>iff (small s.length && small z.length) (some (ab (z.cps.toList.isSuffixOf s.cps.toList)))) none) none
noncomputable def rangeInts (lo hi st:Int):Option (List Int):=
  if st = 1 then iff (small (hi - lo).toNat) (some ((List.range (hi - lo).toNat).map fun (k:Nat)=>lo+(k:Int)))
  else iff (decide (st = -1) && small (lo - hi).toNat) (some ((List.range (lo - hi).toNat).map fun (k:Nat)=>lo - (k:Int)))
noncomputable def rgOk (i:Int):Bool:=decide (-100000 ≤ i) && decide (i ≤ 100000)
noncomputable def iterV (x:AV):Option (List Atom):=
  onL x (fun l=>iff (small l.length) (some l)) (onS x (fun s=>iff (small s.length) (some (s.cps.toList.map fun c=>.str (chr1 c)))) (onG x (fun lo hi st=>iff (rgOk lo && rgOk hi) ((rangeInts lo hi st).map fun l=>l.map .int)) none))
noncomputable def truth:AV→Option Bool
  | .at (.cst (.bool b))=>some b
  | _=>none
structure Tabs where
  glob:Str→Option AV
  cattr:Str→Option Addr
  amo:Addr→Str→Option Atom
noncomputable abbrev Call:=Nat→List AV→FL→Option (AV × FL)
noncomputable def hasOwn (σ:AS):Bool:=σ.loc.any fun o=>match o with
  | some v=>v.isOwn
  | none=>false
noncomputable def isPl:Atom→Bool
  | .int _=>true
  | .str _=>true
  | .cst (.bool _)=>true
  | _=>false
noncomputable def locGet (σ:AS) (i:Nat):Option AV:=match σ.loc[i]? with | some (some v)=>some v | _=>none
noncomputable def capsOf:List Nat→AS→Option (List AV)
  | [],_=>some []
  | i :: r,σ=>(locGet σ i).bind fun v=>(capsOf r σ).map (v :: ·)
noncomputable def onA {β:Type} (v:AV) (A:Atom→Option β) (B:Option β):Option β:=match v with
  | .at i=>A i
  | _=>B
noncomputable def atomsOf:List AV→Option (List Atom)
  | []=>some []
  | v :: r=>onA v (fun a=>(atomsOf r).map (a :: ·)) none
section
variable {β:Type}
noncomputable def ob (o:Option (AV × FL)) (k:AV→FL→Option β):Option β:=match o with | some (x,fl)=>k x fl | none=>none
noncomputable def obI (o:Option (AV × FL)) (k:Int→FL→Option β):Option β:=ob o fun v fl=>onI v (k · fl) none
noncomputable def obS (o:Option (AV × FL)) (k:Str→FL→Option β):Option β:=ob o fun v fl=>onS v (k · fl) none
noncomputable def obR (o:Option (AV × FL)) (k:Addr→FL→Option β):Option β:=ob o fun v fl=>onR v (k · fl) none
noncomputable def obA (o:Option (AV × FL)) (k:Atom→FL→Option β):Option β:=ob o fun v fl=>onA v (k · fl) none
noncomputable def otb (o:Option (Bool × FL)) (a b:FL→Option β):Option β:=match o with
  | some (true,fl)=>a fl
  | some (false,fl)=>b fl
  | none=>none
noncomputable def obL (o:Option (List AV × FL)) (k:List AV→FL→Option β):Option β:=match o with | some (x,fl)=>k x fl | none=>none
noncomputable def tb (o:Option Bool) (a b:Option β):Option β:=match o with | some true=>a | some false=>b | none=>none
end
noncomputable def evMapIf (f:Atom→FL→Option (AV × FL)) (c:Atom→FL→Option (Bool × FL)):List Atom→FL→Option (List Atom × FL)
  | [],fl=>some ([],fl)
  | a :: r,fl=>otb (c a fl) (fun fl'=>obA (f a fl') fun b fl''=>(evMapIf f c r fl'').map fun x=>(b :: x.1,x.2)) (fun fl'=>evMapIf f c r fl')
noncomputable def fldGet (fl:FL) (i:Nat):Option Atom:=match fl[i]? with | some (some a)=>some a | _=>none
noncomputable def isMe:Option AV→Bool
  | some (.at .me)=>true
  | _=>false
noncomputable def selfIs (σ:AS):Bool:=isMe (locGet σ 0)
noncomputable def ordV (s:Str):Option AV:=if s.length = 1 then some (ai (s.cps.getD 0 0:Nat)) else none
noncomputable def rangeV (vs:List AV):Option AV:=match vs with
  | [a]=>onI a (fun h=>iff (rgOk h) (some (.rng 0 h 1))) none
  | [a,b]=>onI a (fun l=>onI b (fun h=>iff (rgOk l && rgOk h) (some (.rng l h 1))) none) none
  | [a,b,c]=>onI a (fun l=>onI b (fun h=>onI c (fun st=>iff (rgOk l && rgOk h && decide (st = -1)) (some (.rng l h (-1)))) none) none) none
  | _=>none
noncomputable def listV (vs:List AV):Option (List Atom):=(atomsOf vs).bind fun l=>iff (small l.length) (some l)
section
variable (T:Tabs) (Γ:Call)
mutual
noncomputable def evE:CE→AS→Option (AV × FL)
  | .var i,σ=>(locGet σ i).map fun v=>(v,σ.fl)
  | .int n,σ=>some (ai n,σ.fl)
  | .neg n,σ=>some (ai (-n),σ.fl)
  | .str s,σ=>some (as s,σ.fl)
  | .bool b,σ=>some (ab b,σ.fl)
  | .glob x,σ=>(T.glob x).map fun v=>(v,σ.fl)
  | .fld i,σ=>if selfIs σ then (fldGet σ.fl i).map fun a=>(.at a,σ.fl) else none
  | .cattr x,σ=>(T.cattr x).map fun a=>(.at (.cst (.ref a)),σ.fl)
  | .amo e x,σ=>obR (evE e σ) fun a fl=>(T.amo a x).map fun v=>(.at v,fl)
  | .bin o a b,σ=>ob (evE a σ) fun x fl=>ob (evE b ⟨σ.loc,fl⟩) fun y fl'=>(binV o x y).map fun v=>(v,fl')
  | .cmp o a b,σ=>ob (evE a σ) fun x fl=>ob (evE b ⟨σ.loc,fl⟩) fun y fl'=>(cmpV o x y).map fun v=>(ab v,fl')
  | .not a,σ=>ob (evE a σ) fun x fl=>(truth x).map fun b=>(ab (!b),fl)
  | .and l,σ=>evAnd l σ
  | .or l,σ=>evOr l σ
  | .ite t a b,σ=>ob (evE t σ) fun x fl=>tb (truth x) (evE a ⟨σ.loc,fl⟩) (evE b ⟨σ.loc,fl⟩)
  | .idx a b,σ=>ob (evE a σ) fun x fl=>ob (evE b ⟨σ.loc,fl⟩) fun y fl'=>(idxV x y).map fun v=>(v,fl')
  | .sliceTo a b,σ=>ob (evE a σ) fun x fl=>obI (evE b ⟨σ.loc,fl⟩) fun h fl'=>(sliceV x none (some h)).map fun v=>(v,fl')
  | .sliceFrom a b,σ=>ob (evE a σ) fun x fl=>obI (evE b ⟨σ.loc,fl⟩) fun h fl'=>(sliceV x (some h) none).map fun v=>(v,fl')
  | .slice a b c,σ=>ob (evE a σ) fun x fl=>obI (evE b ⟨σ.loc,fl⟩) fun l fl'=>obI (evE c ⟨σ.loc,fl'⟩) fun h fl''=>(sliceV x (some l) (some h)).map fun v=>(v,fl'')
  | .len a,σ=>ob (evE a σ) fun x fl=>(lenV x).map fun v=>(v,fl)
  | .ord a,σ=>obS (evE a σ) fun s fl=>(ordV s).map fun v=>(v,fl)
  | .min a b,σ=>obI (evE a σ) fun x fl=>obI (evE b ⟨σ.loc,fl⟩) fun y fl'=>some (ai (if y < x then y else x),fl')
  | .max a b,σ=>obI (evE a σ) fun x fl=>obI (evE b ⟨σ.loc,fl⟩) fun y fl'=>some (ai (if y > x then y else x),fl')
  | .range l,σ=>obL (evA l σ) fun vs fl=>(rangeV vs).map fun v=>(v,fl)
  | .endswith a b,σ=>ob (evE a σ) fun x fl=>ob (evE b ⟨σ.loc,fl⟩) fun y fl'=>(endsV x y).map fun v=>(v,fl')
  | .join a,σ=>ob (evE a σ) fun x fl=>(joinV x).map fun v=>(v,fl)
  | .list l,σ=>obL (evA l σ) fun vs fl=>(listV vs).map fun as=>(.list as,fl)
  | .tup l,σ=>obL (evA l σ) fun vs fl=>(listV vs).map fun as=>(.tup as,fl)
  | .dict l,σ=>some (.dict l,σ.fl)
  | .callG f l,σ=>obL (evA l σ) fun vs fl=>if !vs.all AV.isSt || hasOwn σ then none else Γ f vs fl
  | .callM i f l,σ=>if isMe (locGet σ i) then obL (evA l σ) fun vs fl=>if !vs.all AV.isSt || hasOwn σ then none else Γ f (.at .me :: vs) fl else none
  | .comp elt src caps,σ=>if hasOwn σ then none else ob (evE src σ) fun x fl=>(iterV x).bind fun its=>(capsOf caps σ).bind fun cs=>(evMapIf (fun a fl=>evE elt ⟨some (.at a) :: cs.map some,fl⟩) (fun _ fl=>some (true,fl)) its fl).map fun r=>(.list r.1,r.2)
  | .compIf elt src cond caps,σ=>if hasOwn σ then none else ob (evE src σ) fun x fl=>(iterV x).bind fun its=>(capsOf caps σ).bind fun cs=>(evMapIf (fun a fl=>evE elt ⟨some (.at a) :: cs.map some,fl⟩) (fun a fl=>ob (evE cond ⟨some (.at a) :: cs.map some,fl⟩) fun v fl'=>(truth v).map fun b=>(b,fl')) its fl).map fun r=>(.list r.1,r.2)
noncomputable def evA:CA→AS→Option (List AV × FL)
  | .nil,σ=>some ([],σ.fl)
  | .cons e r,σ=>ob (evE e σ) fun v fl=>obL (evA r ⟨σ.loc,fl⟩) fun vs fl'=>some (v :: vs,fl')
noncomputable def evAnd:CA→AS→Option (AV × FL)
  | .nil,_=>none
  | .cons e .nil,σ=>ob (evE e σ) fun x fl=>(truth x).map fun b=>(ab b,fl)
  | .cons e r,σ=>ob (evE e σ) fun x fl=>tb (truth x) (evAnd r ⟨σ.loc,fl⟩) (some (ab false,fl))
noncomputable def evOr:CA→AS→Option (AV × FL)
  | .nil,_=>none
  | .cons e .nil,σ=>ob (evE e σ) fun x fl=>(truth x).map fun b=>(ab b,fl)
  | .cons e r,σ=>ob (evE e σ) fun x fl=>tb (truth x) (some (ab true,fl)) (evOr r ⟨σ.loc,fl⟩)
end
end
noncomputable def labA:Nat→Addr
  | 0=>419
  | 1=>432
  | 2=>445
  | _=>458
noncomputable def okSet (i:Nat) (σ:AS):Bool:=match σ.loc[i]? with
  | some (some (.own _))=>false
  | some _=>true
  | none=>false
noncomputable abbrev Step:=AS→Option (AS × Out)
noncomputable def loopK (o:Option (AS × Out)) (k:AS→Option (AS × Out)):Option (AS × Out):=match o with
  | some (σ',.next)=>k σ'
  | some (σ',.cont)=>k σ'
  | some (σ',.brk)=>some (σ',.next)
  | r=>r
noncomputable def whileN (t:AS→Option (Bool × FL)) (b:Step):Nat→Step
  | 0,_=>none
  | n+1,σ=>otb (t σ) (fun fl=>loopK (b ⟨σ.loc,fl⟩) (whileN t b n)) fun fl=>some (⟨σ.loc,fl⟩,.next)
noncomputable def forN (i:Nat) (b:Step):List Atom→Step
  | [],σ=>some (σ,.next)
  | a :: r,σ=>iff (okSet i σ) (loopK (b ⟨σ.loc.set i (some (.at a)),σ.fl⟩) (forN i b r))
noncomputable def bindV (i:Nat) (v:AV) (σ:AS) (fl:FL):AS:=⟨σ.loc.set i (some v),fl⟩
noncomputable def exq (k:Nat):Option (AS × Out)→Option (AS × Out)
  | some (σ',.exc k')=>if labA k' = labA k then some (σ',.next) else some (σ',.exc k')
  | r=>r
noncomputable def thenN (o:Option (AS × Out)) (k:AS→Option (AS × Out)):Option (AS × Out):=match o with
  | some (σ',.next)=>k σ'
  | x=>x
noncomputable def tup2 (v:AV) (k:Atom→Atom→Option (AS × Out)):Option (AS × Out):=match v with
  | .tup [a,b]=>k a b
  | _=>none
noncomputable def ownOf (o:Option AV):Option (List Atom):=o.bind fun v=>onO v some none
noncomputable def atOf (o:Option AV):Option Atom:=o.bind fun v=>onA v some none
section
variable (T:Tabs) (Γ:Call) (N:Nat)
noncomputable def evT (e:CE) (σ:AS):Option (Bool × FL):=ob (evE T Γ e σ) fun v fl=>(truth v).map fun b=>(b,fl)
mutual
noncomputable def evS:CS→Step
  | .assign i e,σ=>ob (evE T Γ e σ) fun v fl=>if !v.isSt || !okSet i σ then none else some (bindV i v σ fl,.next)
  | .assign2 i j e,σ=>ob (evE T Γ e σ) fun v fl=>tup2 v fun a b=>if okSet i σ && okSet j σ then some (bindV j (.at b) (bindV i (.at a) σ fl) fl,.next) else none
  | .setf i e,σ=>if selfIs σ then obA (evE T Γ e σ) fun a fl=>if isPl a then some (⟨σ.loc,fl.set i (some a)⟩,.next) else none else none
  | .augf i o e,σ=>if selfIs σ then (fldGet σ.fl i).bind fun a=>ob (evE T Γ e σ) fun v fl=>(atOf (augV o (.at a) v)).bind fun b=>if isPl b then some (⟨σ.loc,fl.set i (some b)⟩,.next) else none else none
  | .aug i o e,σ=>(locGet σ i).bind fun a=>ob (evE T Γ e σ) fun v fl=>(atOf (augV o a v)).map fun b=>(bindV i (.at b) σ fl,.next)
  | .expr e,σ=>ob (evE T Γ e σ) fun _ fl=>some (⟨σ.loc,fl⟩,.next)
  | .append i e,σ=>obA (evE T Γ e σ) fun a fl=>(ownOf (locGet σ i)).bind fun l=>if small l.length && !hasOwn ⟨σ.loc.set i none,fl⟩ then some (bindV i (.own (l ++ [a])) σ fl,.next) else none
  | .newOwn i,σ=>if hasOwn σ || !okSet i σ then none else some (bindV i (.own []) σ σ.fl,.next)
  | .ite t a b,σ=>otb (evT T Γ t σ) (fun fl=>evB a ⟨σ.loc,fl⟩) (fun fl=>evB b ⟨σ.loc,fl⟩)
  | .while t b,σ=>whileN (evT T Γ t) (fun σ=>evB b σ) N σ
  | .for i e b,σ=>ob (evE T Γ e σ) fun v fl=>(iterV v).bind fun its=>forN i (fun σ=>evB b σ) its ⟨σ.loc,fl⟩
  | .try k b,σ=>exq k (evB b σ)
  | .raise k,σ=>some (σ,.exc k)
  | .ret e,σ=>ob (evE T Γ e σ) fun v fl=>if v.isOwn then none else some (⟨σ.loc,fl⟩,.ret v)
  | .pass,σ=>some (σ,.next)
  | .brk,σ=>some (σ,.brk)
  | .cont,σ=>some (σ,.cont)
  | .assert e,σ=>otb (evT T Γ e σ) (fun fl=>some (⟨σ.loc,fl⟩,.next)) (fun _=>none)
noncomputable def evB:CB→Step
  | .nil,σ=>some (σ,.next)
  | .cons s r,σ=>thenN (evS s σ) fun σ'=>evB r σ'
end
end
structure Fn where
  np:Nat
  names:List Str
  body:CB
noncomputable def retOf:Option (AS × Out)→Option (AV × FL)
  | some (σ,.ret v)=>some (v,σ.fl)
  | some (σ,.next)=>some (.at (.cst .none),σ.fl)
  | _=>none
noncomputable def callN (T:Tabs) (fns:List Fn) (N:Nat):Nat→Call
  | 0=>fun _ _ _=>none
  | n+1=>fun f vs fl=>(fns[f]?).bind fun F=>iff (decide (vs.length = F.np)) (retOf (evB T (callN T fns N n) N F.body ⟨vs.map some ++ List.replicate (F.names.length - F.np) none,fl⟩))
end Mine
namespace Mine
noncomputable def c_init:CB:=(.cons (.expr (.callM 0 1 (.cons (.str ⟨#[]⟩) .nil))) .nil)
noncomputable def c_set_current:CB:=(.cons (.setf 0 (.var 1)) (.cons (.setf 1 (.int 0)) (.cons (.setf 2 (.len (.fld 0))) (.cons (.setf 3 (.int 0)) (.cons (.setf 4 (.fld 1)) (.cons (.setf 5 (.fld 2)) .nil))))))
noncomputable def c_get_current:CB:=(.cons (.ret (.fld 0)) .nil)
noncomputable def c_in_grouping:CB:=(.cons (.ite (.cmp .ge (.fld 1) (.fld 2)) (.cons (.ret (.bool false)) .nil) .nil) (.cons (.ite (.cmp .notin (.idx (.fld 0) (.fld 1)) (.var 1)) (.cons (.ret (.bool false)) .nil) .nil) (.cons (.augf 1 .add (.int 1)) (.cons (.ret (.bool true)) .nil))))
noncomputable def c_go_in_grouping:CB:=(.cons (.while (.cmp .lt (.fld 1) (.fld 2)) (.cons (.ite (.cmp .notin (.idx (.fld 0) (.fld 1)) (.var 1)) (.cons (.ret (.bool true)) .nil) .nil) (.cons (.augf 1 .add (.int 1)) .nil))) (.cons (.ret (.bool false)) .nil))
noncomputable def c_go_out_grouping:CB:=(.cons (.while (.cmp .lt (.fld 1) (.fld 2)) (.cons (.ite (.cmp .isin (.idx (.fld 0) (.fld 1)) (.var 1)) (.cons (.ret (.bool true)) .nil) .nil) (.cons (.augf 1 .add (.int 1)) .nil))) (.cons (.ret (.bool false)) .nil))
noncomputable def c_out_grouping_b:CB:=(.cons (.ite (.cmp .le (.fld 1) (.fld 3)) (.cons (.ret (.bool false)) .nil) .nil) (.cons (.ite (.cmp .notin (.idx (.fld 0) (.bin .sub (.fld 1) (.int 1))) (.var 1)) (.cons (.augf 1 .sub (.int 1)) (.cons (.ret (.bool true)) .nil)) .nil) (.cons (.ret (.bool false)) .nil)))
noncomputable def c_eq_s_b:CB:=(.cons (.ite (.endswith (.slice (.fld 0) (.fld 3) (.fld 1)) (.var 1)) (.cons (.augf 1 .sub (.len (.var 1))) (.cons (.ret (.bool true)) .nil)) .nil) (.cons (.ret (.bool false)) .nil))
noncomputable def c_find_among:CB:=(.cons (.assign 2 (.int 0)) (.cons (.assign 3 (.len (.var 1))) (.cons (.assign 4 (.fld 1)) (.cons (.assign 5 (.fld 2)) (.cons (.assign 6 (.int 0)) (.cons (.assign 7 (.int 0)) (.cons (.assign 8 (.bool false)) (.cons (.while (.bool true) (.cons (.assign 9 (.bin .add (.var 2) (.bin .shr (.bin .sub (.var 3) (.var 2)) (.int 1)))) (.cons (.assign 10 (.int 0)) (.cons (.assign 11 (.min (.var 6) (.var 7))) (.cons (.assign 12 (.idx (.var 1) (.var 9))) (.cons (.for 13 (.range (.cons (.var 11) (.cons (.len (.amo (.var 12) (.ofString "s"))) .nil))) (.cons (.ite (.cmp .eq (.bin .add (.var 4) (.var 11)) (.var 5)) (.cons (.assign 10 (.neg 1)) (.cons .brk .nil)) .nil) (.cons (.assign 10 (.bin .sub (.ord (.idx (.fld 0) (.bin .add (.var 4) (.var 11)))) (.ord (.idx (.amo (.var 12) (.ofString "s")) (.var 13))))) (.cons (.ite (.cmp .ne (.var 10) (.int 0)) (.cons .brk .nil) .nil) (.cons (.aug 11 .add (.int 1)) .nil))))) (.cons (.ite (.cmp .lt (.var 10) (.int 0)) (.cons (.assign 3 (.var 9)) (.cons (.assign 7 (.var 11)) .nil)) (.cons (.assign 2 (.var 9)) (.cons (.assign 6 (.var 11)) .nil))) (.cons (.ite (.cmp .le (.bin .sub (.var 3) (.var 2)) (.int 1)) (.cons (.ite (.cmp .gt (.var 2) (.int 0)) (.cons .brk .nil) .nil) (.cons (.ite (.cmp .eq (.var 3) (.var 2)) (.cons .brk .nil) .nil) (.cons (.ite (.var 8) (.cons .brk .nil) .nil) (.cons (.assign 8 (.bool true)) .nil)))) .nil) .nil)))))))) (.cons (.while (.bool true) (.cons (.assign 12 (.idx (.var 1) (.var 2))) (.cons (.ite (.cmp .ge (.var 6) (.len (.amo (.var 12) (.ofString "s")))) (.cons (.setf 1 (.bin .add (.var 4) (.len (.amo (.var 12) (.ofString "s"))))) (.cons (.ret (.amo (.var 12) (.ofString "result"))) .nil)) .nil) (.cons (.assign 2 (.amo (.var 12) (.ofString "substring_i"))) (.cons (.ite (.cmp .lt (.var 2) (.int 0)) (.cons (.ret (.int 0)) .nil) .nil) .nil))))) (.cons (.ret (.neg 1)) .nil))))))))))
noncomputable def c_find_among_b:CB:=(.cons (.assign 2 (.int 0)) (.cons (.assign 3 (.len (.var 1))) (.cons (.assign 4 (.fld 1)) (.cons (.assign 5 (.fld 3)) (.cons (.assign 6 (.int 0)) (.cons (.assign 7 (.int 0)) (.cons (.assign 8 (.bool false)) (.cons (.while (.bool true) (.cons (.assign 9 (.bin .add (.var 2) (.bin .shr (.bin .sub (.var 3) (.var 2)) (.int 1)))) (.cons (.assign 10 (.int 0)) (.cons (.assign 11 (.min (.var 6) (.var 7))) (.cons (.assign 12 (.idx (.var 1) (.var 9))) (.cons (.for 13 (.range (.cons (.bin .sub (.bin .sub (.len (.amo (.var 12) (.ofString "s"))) (.int 1)) (.var 11)) (.cons (.neg 1) (.cons (.neg 1) .nil)))) (.cons (.ite (.cmp .eq (.bin .sub (.var 4) (.var 11)) (.var 5)) (.cons (.assign 10 (.neg 1)) (.cons .brk .nil)) .nil) (.cons (.assign 10 (.bin .sub (.ord (.idx (.fld 0) (.bin .sub (.bin .sub (.var 4) (.int 1)) (.var 11)))) (.ord (.idx (.amo (.var 12) (.ofString "s")) (.var 13))))) (.cons (.ite (.cmp .ne (.var 10) (.int 0)) (.cons .brk .nil) .nil) (.cons (.aug 11 .add (.int 1)) .nil))))) (.cons (.ite (.cmp .lt (.var 10) (.int 0)) (.cons (.assign 3 (.var 9)) (.cons (.assign 7 (.var 11)) .nil)) (.cons (.assign 2 (.var 9)) (.cons (.assign 6 (.var 11)) .nil))) (.cons (.ite (.cmp .le (.bin .sub (.var 3) (.var 2)) (.int 1)) (.cons (.ite (.cmp .gt (.var 2) (.int 0)) (.cons .brk .nil) .nil) (.cons (.ite (.cmp .eq (.var 3) (.var 2)) (.cons .brk .nil) .nil) (.cons (.ite (.var 8) (.cons .brk .nil) .nil) (.cons (.assign 8 (.bool true)) .nil)))) .nil) .nil)))))))) (.cons (.while (.bool true) (.cons (.assign 12 (.idx (.var 1) (.var 2))) (.cons (.ite (.cmp .ge (.var 6) (.len (.amo (.var 12) (.ofString "s")))) (.cons (.setf 1 (.bin .sub (.var 4) (.len (.amo (.var 12) (.ofString "s"))))) (.cons (.ret (.amo (.var 12) (.ofString "result"))) .nil)) .nil) (.cons (.assign 2 (.amo (.var 12) (.ofString "substring_i"))) (.cons (.ite (.cmp .lt (.var 2) (.int 0)) (.cons (.ret (.int 0)) .nil) .nil) .nil))))) (.cons (.ret (.neg 1)) .nil))))))))))
noncomputable def c_replace_s:CB:=(.cons (.assign 4 (.bin .sub (.len (.var 3)) (.bin .sub (.var 2) (.var 1)))) (.cons (.setf 0 (.bin .add (.bin .add (.slice (.fld 0) (.int 0) (.var 1)) (.var 3)) (.sliceFrom (.fld 0) (.var 2)))) (.cons (.augf 2 .add (.var 4)) (.cons (.ite (.cmp .ge (.fld 1) (.var 2)) (.cons (.augf 1 .add (.var 4)) .nil) (.cons (.ite (.cmp .gt (.fld 1) (.var 1)) (.cons (.setf 1 (.var 1)) .nil) .nil) .nil)) (.cons (.ret (.var 4)) .nil)))))
noncomputable def c_slice_from:CB:=(.cons (.assert (.cmp .ge (.fld 4) (.int 0))) (.cons (.assert (.cmp .le (.fld 4) (.fld 5))) (.cons (.assert (.cmp .le (.fld 5) (.fld 2))) (.cons (.assert (.cmp .le (.fld 2) (.len (.fld 0)))) (.cons (.expr (.callM 0 10 (.cons (.fld 4) (.cons (.fld 5) (.cons (.var 1) .nil))))) (.cons (.setf 5 (.bin .add (.fld 4) (.len (.var 1)))) .nil))))))
noncomputable def c_slice_del:CB:=(.cons (.ret (.callM 0 11 (.cons (.str ⟨#[]⟩) .nil))) .nil)
noncomputable def c_stemWord:CB:=(.cons (.expr (.callM 0 1 (.cons (.var 1) .nil))) (.cons (.expr (.callM 0 24 .nil)) (.cons (.ret (.callM 0 2 .nil)) .nil)))
noncomputable def c_stemWords:CB:=(.cons (.ret (.comp (.callM 1 13 (.cons (.var 0) .nil)) (.var 1) [0])) .nil)
noncomputable def c_r_prelude:CB:=(.cons (.assign 1 (.fld 1)) (.cons (.while (.bool true) (.cons (.assign 2 (.fld 1)) (.cons (.try 0 (.cons (.setf 4 (.fld 1)) (.cons (.assign 3 (.callM 0 8 (.cons (.cattr (.ofString "a_0")) .nil))) (.cons (.setf 5 (.fld 1)) (.cons (.ite (.cmp .eq (.var 3) (.int 1)) (.cons (.expr (.callM 0 11 (.cons (.str ⟨#[97]⟩) .nil))) .nil) (.cons (.ite (.cmp .eq (.var 3) (.int 2)) (.cons (.expr (.callM 0 11 (.cons (.str ⟨#[101]⟩) .nil))) .nil) (.cons (.ite (.cmp .eq (.var 3) (.int 3)) (.cons (.expr (.callM 0 11 (.cons (.str ⟨#[105]⟩) .nil))) .nil) (.cons (.ite (.cmp .eq (.var 3) (.int 4)) (.cons (.expr (.callM 0 11 (.cons (.str ⟨#[111]⟩) .nil))) .nil) (.cons (.ite (.cmp .eq (.var 3) (.int 5)) (.cons (.expr (.callM 0 11 (.cons (.str ⟨#[117]⟩) .nil))) .nil) (.cons (.ite (.cmp .ge (.fld 1) (.fld 2)) (.cons (.raise 0) .nil) .nil) (.cons (.augf 1 .add (.int 1)) .nil))) .nil)) .nil)) .nil)) .nil)) (.cons .cont .nil)))))) (.cons (.setf 1 (.var 2)) (.cons .brk .nil))))) (.cons (.setf 1 (.var 1)) (.cons (.assign 4 (.fld 1)) (.cons (.try 0 (.cons (.setf 4 (.fld 1)) (.cons (.ite (.or (.cons (.cmp .eq (.fld 1) (.fld 2)) (.cons (.cmp .ne (.idx (.fld 0) (.fld 1)) (.str ⟨#[121]⟩)) .nil))) (.cons (.setf 1 (.var 4)) (.cons (.raise 0) .nil)) .nil) (.cons (.augf 1 .add (.int 1)) (.cons (.setf 5 (.fld 1)) (.cons (.expr (.callM 0 11 (.cons (.str ⟨#[89]⟩) .nil))) .nil)))))) (.cons (.while (.bool true) (.cons (.assign 5 (.fld 1)) (.cons (.try 0 (.cons (.ite (.not (.callM 0 5 (.cons (.cattr (.ofString "g_v")) .nil))) (.cons (.raise 0) .nil) .nil) (.cons (.augf 1 .add (.int 1)) (.cons (.assign 6 (.fld 1)) (.cons (.try 1 (.cons (.setf 4 (.fld 1)) (.cons (.while (.bool true) (.cons (.assign 7 (.fld 1)) (.cons (.try 2 (.cons (.ite (.or (.cons (.cmp .eq (.fld 1) (.fld 2)) (.cons (.cmp .ne (.idx (.fld 0) (.fld 1)) (.str ⟨#[105]⟩)) .nil))) (.cons (.raise 2) .nil) .nil) (.cons (.augf 1 .add (.int 1)) (.cons (.setf 5 (.fld 1)) (.cons (.assign 8 (.fld 1)) (.cons (.try 3 (.cons (.ite (.not (.callM 0 3 (.cons (.cattr (.ofString "g_v")) .nil))) (.cons (.raise 3) .nil) .nil) (.cons (.expr (.callM 0 11 (.cons (.str ⟨#[73]⟩) .nil))) .nil))) (.cons (.setf 1 (.var 8)) (.cons .brk .nil)))))))) (.cons (.setf 1 (.var 7)) (.cons (.ite (.or (.cons (.cmp .eq (.fld 1) (.fld 2)) (.cons (.cmp .ne (.idx (.fld 0) (.fld 1)) (.str ⟨#[121]⟩)) .nil))) (.cons (.setf 1 (.var 6)) (.cons (.raise 1) .nil)) .nil) (.cons (.augf 1 .add (.int 1)) (.cons (.setf 5 (.fld 1)) (.cons (.expr (.callM 0 11 (.cons (.str ⟨#[89]⟩) .nil))) (.cons .brk .nil))))))))) .nil))) (.cons .cont .nil)))))) (.cons (.setf 1 (.var 5)) (.cons .brk .nil))))) (.cons (.ret (.bool true)) .nil)))))))
noncomputable def c_r_mark_regions:CB:=(.cons (.setf 6 (.fld 2)) (.cons (.setf 7 (.fld 2)) (.cons (.assign 1 (.fld 1)) (.cons (.ite (.cmp .gt (.bin .add (.fld 1) (.int 3)) (.fld 2)) (.cons (.ret (.bool false)) .nil) .nil) (.cons (.augf 1 .add (.int 3)) (.cons (.assign 2 (.fld 1)) (.cons (.setf 1 (.var 1)) (.cons (.ite (.not (.callM 0 5 (.cons (.cattr (.ofString "g_v")) .nil))) (.cons (.ret (.bool false)) .nil) .nil) (.cons (.augf 1 .add (.int 1)) (.cons (.ite (.not (.callM 0 4 (.cons (.cattr (.ofString "g_v")) .nil))) (.cons (.ret (.bool false)) .nil) .nil) (.cons (.augf 1 .add (.int 1)) (.cons (.setf 6 (.fld 1)) (.cons (.try 0 (.cons (.ite (.cmp .ge (.fld 6) (.var 2)) (.cons (.raise 0) .nil) .nil) (.cons (.setf 6 (.var 2)) .nil))) (.cons (.ite (.not (.callM 0 5 (.cons (.cattr (.ofString "g_v")) .nil))) (.cons (.ret (.bool false)) .nil) .nil) (.cons (.augf 1 .add (.int 1)) (.cons (.ite (.not (.callM 0 4 (.cons (.cattr (.ofString "g_v")) .nil))) (.cons (.ret (.bool false)) .nil) .nil) (.cons (.augf 1 .add (.int 1)) (.cons (.setf 7 (.fld 1)) (.cons (.ret (.bool true)) .nil)))))))))))))))))))
noncomputable def c_r_postlude:CB:=(.cons (.while (.bool true) (.cons (.assign 1 (.fld 1)) (.cons (.try 0 (.cons (.setf 4 (.fld 1)) (.cons (.assign 2 (.callM 0 8 (.cons (.cattr (.ofString "a_1")) .nil))) (.cons (.setf 5 (.fld 1)) (.cons (.ite (.cmp .eq (.var 2) (.int 1)) (.cons (.expr (.callM 0 11 (.cons (.str ⟨#[121]⟩) .nil))) .nil) (.cons (.ite (.cmp .eq (.var 2) (.int 2)) (.cons (.expr (.callM 0 11 (.cons (.str ⟨#[105]⟩) .nil))) .nil) (.cons (.ite (.cmp .ge (.fld 1) (.fld 2)) (.cons (.raise 0) .nil) .nil) (.cons (.augf 1 .add (.int 1)) .nil))) .nil)) (.cons .cont .nil)))))) (.cons (.setf 1 (.var 1)) (.cons .brk .nil))))) (.cons (.ret (.bool true)) .nil))
noncomputable def c_r_R1:CB:=(.cons (.ret (.cmp .le (.fld 6) (.fld 1))) .nil)
noncomputable def c_r_R2:CB:=(.cons (.ret (.cmp .le (.fld 7) (.fld 1))) .nil)
noncomputable def c_r_undouble:CB:=(.cons (.assign 1 (.bin .sub (.fld 2) (.fld 1))) (.cons (.ite (.cmp .eq (.callM 0 9 (.cons (.cattr (.ofString "a_2")) .nil)) (.int 0)) (.cons (.ret (.bool false)) .nil) .nil) (.cons (.setf 1 (.bin .sub (.fld 2) (.var 1))) (.cons (.setf 5 (.fld 1)) (.cons (.ite (.cmp .le (.fld 1) (.fld 3)) (.cons (.ret (.bool false)) .nil) .nil) (.cons (.augf 1 .sub (.int 1)) (.cons (.setf 4 (.fld 1)) (.cons (.expr (.callM 0 12 .nil)) (.cons (.ret (.bool true)) .nil)))))))))
noncomputable def c_r_e_ending:CB:=(.cons (.setf 8 (.bool false)) (.cons (.setf 5 (.fld 1)) (.cons (.ite (.or (.cons (.cmp .le (.fld 1) (.fld 3)) (.cons (.cmp .ne (.idx (.fld 0) (.bin .sub (.fld 1) (.int 1))) (.str ⟨#[101]⟩)) .nil))) (.cons (.ret (.bool false)) .nil) .nil) (.cons (.augf 1 .sub (.int 1)) (.cons (.setf 4 (.fld 1)) (.cons (.ite (.not (.callM 0 18 .nil)) (.cons (.ret (.bool false)) .nil) .nil) (.cons (.assign 1 (.bin .sub (.fld 2) (.fld 1))) (.cons (.ite (.not (.callM 0 6 (.cons (.cattr (.ofString "g_v")) .nil))) (.cons (.ret (.bool false)) .nil) .nil) (.cons (.setf 1 (.bin .sub (.fld 2) (.var 1))) (.cons (.expr (.callM 0 12 .nil)) (.cons (.setf 8 (.bool true)) (.cons (.ret (.callM 0 20 .nil)) .nil))))))))))))
noncomputable def c_r_en_ending:CB:=(.cons (.ite (.not (.callM 0 18 .nil)) (.cons (.ret (.bool false)) .nil) .nil) (.cons (.assign 1 (.bin .sub (.fld 2) (.fld 1))) (.cons (.ite (.not (.callM 0 6 (.cons (.cattr (.ofString "g_v")) .nil))) (.cons (.ret (.bool false)) .nil) .nil) (.cons (.setf 1 (.bin .sub (.fld 2) (.var 1))) (.cons (.try 0 (.cons (.ite (.not (.callM 0 7 (.cons (.str ⟨#[103,101,109]⟩) .nil))) (.cons (.raise 0) .nil) .nil) (.cons (.ret (.bool false)) .nil))) (.cons (.expr (.callM 0 12 .nil)) (.cons (.ret (.callM 0 20 .nil)) .nil)))))))
noncomputable def c_r_standard_suffix:CB:=(.cons (.assign 1 (.bin .sub (.fld 2) (.fld 1))) (.cons (.try 0 (.cons (.setf 5 (.fld 1)) (.cons (.assign 2 (.callM 0 9 (.cons (.cattr (.ofString "a_3")) .nil))) (.cons (.ite (.cmp .eq (.var 2) (.int 0)) (.cons (.raise 0) .nil) .nil) (.cons (.setf 4 (.fld 1)) (.cons (.ite (.cmp .eq (.var 2) (.int 1)) (.cons (.ite (.not (.callM 0 18 .nil)) (.cons (.raise 0) .nil) .nil) (.cons (.expr (.callM 0 11 (.cons (.str ⟨#[104,101,105,100]⟩) .nil))) .nil)) (.cons (.ite (.cmp .eq (.var 2) (.int 2)) (.cons (.ite (.not (.callM 0 22 .nil)) (.cons (.raise 0) .nil) .nil) .nil) (.cons (.ite (.not (.callM 0 18 .nil)) (.cons (.raise 0) .nil) .nil) (.cons (.ite (.not (.callM 0 6 (.cons (.cattr (.ofString "g_v_j")) .nil))) (.cons (.raise 0) .nil) .nil) (.cons (.expr (.callM 0 12 .nil)) .nil)))) .nil)) .nil)))))) (.cons (.setf 1 (.bin .sub (.fld 2) (.var 1))) (.cons (.assign 3 (.bin .sub (.fld 2) (.fld 1))) (.cons (.expr (.callM 0 21 .nil)) (.cons (.setf 1 (.bin .sub (.fld 2) (.var 3))) (.cons (.assign 4 (.bin .sub (.fld 2) (.fld 1))) (.cons (.try 0 (.cons (.setf 5 (.fld 1)) (.cons (.ite (.not (.callM 0 7 (.cons (.str ⟨#[104,101,105,100]⟩) .nil))) (.cons (.raise 0) .nil) .nil) (.cons (.setf 4 (.fld 1)) (.cons (.ite (.not (.callM 0 19 .nil)) (.cons (.raise 0) .nil) .nil) (.cons (.try 1 (.cons (.ite (.or (.cons (.cmp .le (.fld 1) (.fld 3)) (.cons (.cmp .ne (.idx (.fld 0) (.bin .sub (.fld 1) (.int 1))) (.str ⟨#[99]⟩)) .nil))) (.cons (.raise 1) .nil) .nil) (.cons (.augf 1 .sub (.int 1)) (.cons (.raise 0) .nil)))) (.cons (.expr (.callM 0 12 .nil)) (.cons (.setf 5 (.fld 1)) (.cons (.ite (.not (.callM 0 7 (.cons (.str ⟨#[101,110]⟩) .nil))) (.cons (.raise 0) .nil) .nil) (.cons (.setf 4 (.fld 1)) (.cons (.ite (.not (.callM 0 22 .nil)) (.cons (.raise 0) .nil) .nil) .nil))))))))))) (.cons (.setf 1 (.bin .sub (.fld 2) (.var 4))) (.cons (.assign 5 (.bin .sub (.fld 2) (.fld 1))) (.cons (.try 0 (.cons (.setf 5 (.fld 1)) (.cons (.assign 2 (.callM 0 9 (.cons (.cattr (.ofString "a_4")) .nil))) (.cons (.ite (.cmp .eq (.var 2) (.int 0)) (.cons (.raise 0) .nil) .nil) (.cons (.setf 4 (.fld 1)) (.cons (.ite (.cmp .eq (.var 2) (.int 1)) (.cons (.ite (.not (.callM 0 19 .nil)) (.cons (.raise 0) .nil) .nil) (.cons (.expr (.callM 0 12 .nil)) (.cons (.while (.bool true) (.cons (.assign 6 (.bin .sub (.fld 2) (.fld 1))) (.cons (.try 1 (.cons (.setf 5 (.fld 1)) (.cons (.ite (.not (.callM 0 7 (.cons (.str ⟨#[105,103]⟩) .nil))) (.cons (.raise 1) .nil) .nil) (.cons (.setf 4 (.fld 1)) (.cons (.ite (.not (.callM 0 19 .nil)) (.cons (.raise 1) .nil) .nil) (.cons (.try 2 (.cons (.ite (.or (.cons (.cmp .le (.fld 1) (.fld 3)) (.cons (.cmp .ne (.idx (.fld 0) (.bin .sub (.fld 1) (.int 1))) (.str ⟨#[101]⟩)) .nil))) (.cons (.raise 2) .nil) .nil) (.cons (.augf 1 .sub (.int 1)) (.cons (.raise 1) .nil)))) (.cons (.expr (.callM 0 12 .nil)) (.cons .brk .nil)))))))) (.cons (.setf 1 (.bin .sub (.fld 2) (.var 6))) (.cons (.ite (.not (.callM 0 20 .nil)) (.cons (.raise 0) .nil) .nil) (.cons .brk .nil)))))) .nil))) (.cons (.ite (.cmp .eq (.var 2) (.int 2)) (.cons (.ite (.not (.callM 0 19 .nil)) (.cons (.raise 0) .nil) .nil) (.cons (.try 1 (.cons (.ite (.or (.cons (.cmp .le (.fld 1) (.fld 3)) (.cons (.cmp .ne (.idx (.fld 0) (.bin .sub (.fld 1) (.int 1))) (.str ⟨#[101]⟩)) .nil))) (.cons (.raise 1) .nil) .nil) (.cons (.augf 1 .sub (.int 1)) (.cons (.raise 0) .nil)))) (.cons (.expr (.callM 0 12 .nil)) .nil))) (.cons (.ite (.cmp .eq (.var 2) (.int 3)) (.cons (.ite (.not (.callM 0 19 .nil)) (.cons (.raise 0) .nil) .nil) (.cons (.expr (.callM 0 12 .nil)) (.cons (.ite (.not (.callM 0 21 .nil)) (.cons (.raise 0) .nil) .nil) .nil))) (.cons (.ite (.cmp .eq (.var 2) (.int 4)) (.cons (.ite (.not (.callM 0 19 .nil)) (.cons (.raise 0) .nil) .nil) (.cons (.expr (.callM 0 12 .nil)) .nil)) (.cons (.ite (.not (.callM 0 19 .nil)) (.cons (.raise 0) .nil) .nil) (.cons (.ite (.not (.fld 8)) (.cons (.raise 0) .nil) .nil) (.cons (.expr (.callM 0 12 .nil)) .nil)))) .nil)) .nil)) .nil)) .nil)))))) (.cons (.setf 1 (.bin .sub (.fld 2) (.var 5))) (.cons (.assign 7 (.bin .sub (.fld 2) (.fld 1))) (.cons (.try 0 (.cons (.ite (.not (.callM 0 6 (.cons (.cattr (.ofString "g_v_I")) .nil))) (.cons (.raise 0) .nil) .nil) (.cons (.assign 8 (.bin .sub (.fld 2) (.fld 1))) (.cons (.ite (.cmp .eq (.callM 0 9 (.cons (.cattr (.ofString "a_5")) .nil)) (.int 0)) (.cons (.raise 0) .nil) .nil) (.cons (.ite (.not (.callM 0 6 (.cons (.cattr (.ofString "g_v")) .nil))) (.cons (.raise 0) .nil) .nil) (.cons (.setf 1 (.bin .sub (.fld 2) (.var 8))) (.cons (.setf 5 (.fld 1)) (.cons (.ite (.cmp .le (.fld 1) (.fld 3)) (.cons (.raise 0) .nil) .nil) (.cons (.augf 1 .sub (.int 1)) (.cons (.setf 4 (.fld 1)) (.cons (.expr (.callM 0 12 .nil)) .nil))))))))))) (.cons (.setf 1 (.bin .sub (.fld 2) (.var 7))) (.cons (.ret (.bool true)) .nil))))))))))))))))
noncomputable def c_stem:CB:=(.cons (.assign 1 (.fld 1)) (.cons (.expr (.callM 0 15 .nil)) (.cons (.setf 1 (.var 1)) (.cons (.assign 2 (.fld 1)) (.cons (.expr (.callM 0 16 .nil)) (.cons (.setf 1 (.var 2)) (.cons (.setf 3 (.fld 1)) (.cons (.setf 1 (.fld 2)) (.cons (.expr (.callM 0 23 .nil)) (.cons (.setf 1 (.fld 3)) (.cons (.assign 3 (.fld 1)) (.cons (.expr (.callM 0 17 .nil)) (.cons (.setf 1 (.var 3)) (.cons (.ret (.bool true)) .nil))))))))))))))
noncomputable def c_law_pieces:CB:=(.cons (.ret (.list (.cons (.str ⟨#[101,110]⟩) (.cons (.str ⟨#[101,110,101]⟩) (.cons (.str ⟨#[104,101,100,101,110]⟩) (.cons (.str ⟨#[115,101]⟩) (.cons (.str ⟨#[104,101,105,100]⟩) (.cons (.str ⟨#[101,110,104,101,105,100]⟩) (.cons (.str ⟨#[99,104,101,105,100]⟩) (.cons (.str ⟨#[103,101,109]⟩) (.cons (.str ⟨#[103,101,109,101,110]⟩) (.cons (.str ⟨#[101,110,100]⟩) (.cons (.str ⟨#[105,110,103]⟩) (.cons (.str ⟨#[105,103]⟩) (.cons (.str ⟨#[101,105,103]⟩) (.cons (.str ⟨#[105,103,101,110,100]⟩) (.cons (.str ⟨#[101,105,103,105,110,103]⟩) (.cons (.str ⟨#[108,105,106,107]⟩) (.cons (.str ⟨#[101,108,105,106,107]⟩) (.cons (.str ⟨#[108,105,106,107,101]⟩) (.cons (.str ⟨#[98,97,97,114]⟩) (.cons (.str ⟨#[98,97,114]⟩) (.cons (.str ⟨#[98,97,114,101]⟩) (.cons (.str ⟨#[100,100]⟩) (.cons (.str ⟨#[107,107]⟩) (.cons (.str ⟨#[116,116]⟩) (.cons (.str ⟨#[100,100,101,110]⟩) (.cons (.str ⟨#[107,107,105,110,103]⟩) (.cons (.str ⟨#[116,116,101]⟩) (.cons (.str ⟨#[97,97]⟩) (.cons (.str ⟨#[101,101]⟩) (.cons (.str ⟨#[111,111]⟩) (.cons (.str ⟨#[117,117]⟩) (.cons (.str ⟨#[97,97,110]⟩) (.cons (.str ⟨#[101,101,114]⟩) (.cons (.str ⟨#[111,111,112]⟩) (.cons (.str ⟨#[117,117,114]⟩) (.cons (.str ⟨#[97,97,105,101]⟩) (.cons (.str ⟨#[97,97,121,101]⟩) (.cons (.str ⟨#[105,106,115]⟩) (.cons (.str ⟨#[118,101,114]⟩) (.cons (.str ⟨#[111,110,116]⟩) (.cons (.str ⟨#[98,101]⟩) (.cons (.str ⟨#[119,101,114,107]⟩) (.cons (.str ⟨#[108,111,111,112]⟩) (.cons (.str ⟨#[107,105,110,100]⟩) (.cons (.str ⟨#[103,101]⟩) (.cons (.str ⟨#[776]⟩) .nil)))))))))))))))))))))))))))))))))))))))))))))))) .nil)
noncomputable def c_law_bare:CB:=(.cons (.ret (.dict [(⟨#[225]⟩,⟨#[97]⟩),(⟨#[228]⟩,⟨#[97]⟩),(⟨#[233]⟩,⟨#[101]⟩),(⟨#[235]⟩,⟨#[101]⟩),(⟨#[237]⟩,⟨#[105]⟩),(⟨#[239]⟩,⟨#[105]⟩),(⟨#[243]⟩,⟨#[111]⟩),(⟨#[246]⟩,⟨#[111]⟩),(⟨#[250]⟩,⟨#[117]⟩),(⟨#[252]⟩,⟨#[117]⟩)])) .nil)
noncomputable def c_law_word:CB:=(.cons (.assign 2 (.str ⟨#[]⟩)) (.cons (.for 3 (.var 0) (.cons (.assign 4 (.bin .mod (.var 3) (.int 90))) (.cons (.assign 5 (.ite (.cmp .lt (.var 4) (.int 44)) (.idx (.glob (.ofString "_law_signs")) (.var 4)) (.idx (.callG 25 .nil) (.bin .sub (.var 4) (.int 44))))) (.cons (.ite (.cmp .le (.bin .add (.len (.var 2)) (.len (.var 5))) (.var 1)) (.cons (.assign 2 (.bin .add (.var 2) (.var 5))) .nil) .nil) .nil)))) (.cons (.ret (.var 2)) .nil)))
noncomputable def c_law_marked:CB:=(.cons (.assign 1 (.comp (.ite (.cmp .isin (.var 0) (.callG 26 .nil)) (.idx (.callG 26 .nil) (.var 0)) (.var 0)) (.var 0) [])) (.cons (.newOwn 2) (.cons (.for 3 (.range (.cons (.len (.var 1)) .nil)) (.cons (.assign 4 (.idx (.var 1) (.var 3))) (.cons (.assign 5 (.and (.cons (.cmp .gt (.var 3) (.int 0)) (.cons (.cmp .isin (.idx (.var 2) (.bin .sub (.var 3) (.int 1))) (.glob (.ofString "_law_vowels"))) .nil)))) (.cons (.assign 6 (.and (.cons (.cmp .lt (.bin .add (.var 3) (.int 1)) (.len (.var 1))) (.cons (.cmp .isin (.idx (.var 1) (.bin .add (.var 3) (.int 1))) (.glob (.ofString "_law_vowels"))) .nil)))) (.cons (.ite (.and (.cons (.cmp .eq (.var 4) (.str ⟨#[121]⟩)) (.cons (.or (.cons (.cmp .eq (.var 3) (.int 0)) (.cons (.var 5) .nil))) .nil))) (.cons (.append 2 (.str ⟨#[89]⟩)) .nil) (.cons (.ite (.and (.cons (.cmp .eq (.var 4) (.str ⟨#[105]⟩)) (.cons (.var 5) (.cons (.var 6) .nil)))) (.cons (.append 2 (.str ⟨#[73]⟩)) .nil) (.cons (.append 2 (.var 4)) .nil)) .nil)) .nil))))) (.cons (.ret (.join (.var 2))) .nil))))
noncomputable def c_law_regions:CB:=(.cons (.assign 1 (.compIf (.bin .add (.var 0) (.int 1)) (.range (.cons (.int 1) (.cons (.len (.var 0)) .nil))) (.and (.cons (.cmp .isin (.idx (.var 1) (.bin .sub (.var 0) (.int 1))) (.glob (.ofString "_law_vowels"))) (.cons (.cmp .notin (.idx (.var 1) (.var 0)) (.glob (.ofString "_law_vowels"))) .nil))) [0])) (.cons (.assign 2 (.ite (.cmp .gt (.len (.var 1)) (.int 0)) (.max (.int 3) (.idx (.var 1) (.int 0))) (.len (.var 0)))) (.cons (.assign 3 (.ite (.cmp .gt (.len (.var 1)) (.int 1)) (.idx (.var 1) (.int 1)) (.len (.var 0)))) (.cons (.ret (.tup (.cons (.var 2) (.cons (.var 3) .nil)))) .nil))))
noncomputable def c_law_ending:CB:=(.cons (.assign 2 (.str ⟨#[]⟩)) (.cons (.for 3 (.var 1) (.cons (.ite (.and (.cons (.endswith (.var 0) (.var 3)) (.cons (.cmp .gt (.len (.var 3)) (.len (.var 2))) .nil))) (.cons (.assign 2 (.var 3)) .nil) .nil) .nil)) (.cons (.ret (.var 2)) .nil)))
noncomputable def c_law_shut:CB:=(.cons (.ret (.cmp .notin (.idx (.var 0) (.bin .sub (.len (.var 0)) (.int 1))) (.var 1))) .nil)
noncomputable def c_law_single:CB:=(.cons (.ret (.ite (.cmp .eq (.callG 30 (.cons (.var 0) (.cons (.list (.cons (.str ⟨#[100,100]⟩) (.cons (.str ⟨#[107,107]⟩) (.cons (.str ⟨#[116,116]⟩) .nil)))) .nil))) (.str ⟨#[]⟩)) (.var 0) (.sliceTo (.var 0) (.bin .sub (.len (.var 0)) (.int 1))))) .nil)
noncomputable def c_law_less_en:CB:=(.cons (.assign 3 (.sliceTo (.var 0) (.bin .sub (.len (.var 0)) (.len (.var 1))))) (.cons (.ite (.and (.cons (.cmp .ge (.len (.var 3)) (.var 2)) (.cons (.callG 31 (.cons (.var 3) (.cons (.glob (.ofString "_law_vowels")) .nil))) (.cons (.not (.endswith (.var 3) (.str ⟨#[103,101,109]⟩))) .nil)))) (.cons (.ret (.callG 32 (.cons (.var 3) .nil))) .nil) .nil) (.cons (.ret (.var 0)) .nil)))
noncomputable def c_law_less_e:CB:=(.cons (.ite (.endswith (.var 0) (.str ⟨#[101]⟩)) (.cons (.assign 2 (.sliceTo (.var 0) (.bin .sub (.len (.var 0)) (.int 1)))) (.cons (.ite (.and (.cons (.cmp .ge (.len (.var 2)) (.var 1)) (.cons (.callG 31 (.cons (.var 2) (.cons (.glob (.ofString "_law_vowels")) .nil))) .nil))) (.cons (.ret (.callG 32 (.cons (.var 2) .nil))) .nil) .nil) .nil)) .nil) (.cons (.ret (.var 0)) .nil))
noncomputable def c_law_stem:CB:=(.cons (.assign 0 (.callG 28 (.cons (.var 0) .nil))) (.cons (.assign2 1 2 (.callG 29 (.cons (.var 0) .nil))) (.cons (.assign 3 (.callG 30 (.cons (.var 0) (.cons (.list (.cons (.str ⟨#[104,101,100,101,110]⟩) (.cons (.str ⟨#[101,110,101]⟩) (.cons (.str ⟨#[101,110]⟩) (.cons (.str ⟨#[115,101]⟩) (.cons (.str ⟨#[115]⟩) .nil)))))) .nil)))) (.cons (.assign 4 (.sliceTo (.var 0) (.bin .sub (.len (.var 0)) (.len (.var 3))))) (.cons (.ite (.cmp .isin (.var 3) (.list (.cons (.str ⟨#[101,110,101]⟩) (.cons (.str ⟨#[101,110]⟩) .nil)))) (.cons (.assign 0 (.callG 33 (.cons (.var 0) (.cons (.var 3) (.cons (.var 1) .nil))))) .nil) (.cons (.ite (.and (.cons (.cmp .eq (.var 3) (.str ⟨#[104,101,100,101,110]⟩)) (.cons (.cmp .ge (.len (.var 4)) (.var 1)) .nil))) (.cons (.assign 0 (.bin .add (.var 4) (.str ⟨#[104,101,105,100]⟩))) .nil) (.cons (.ite (.and (.cons (.cmp .isin (.var 3) (.list (.cons (.str ⟨#[115,101]⟩) (.cons (.str ⟨#[115]⟩) .nil)))) (.cons (.cmp .ge (.len (.var 4)) (.var 1)) (.cons (.callG 31 (.cons (.var 4) (.cons (.bin .add (.glob (.ofString "_law_vowels")) (.list (.cons (.str ⟨#[106]⟩) .nil))) .nil))) .nil)))) (.cons (.assign 0 (.var 4)) .nil) .nil) .nil)) .nil)) (.cons (.assign 4 (.callG 34 (.cons (.var 0) (.cons (.var 1) .nil)))) (.cons (.assign 5 (.cmp .ne (.var 4) (.var 0))) (.cons (.assign 0 (.var 4)) (.cons (.ite (.endswith (.var 0) (.str ⟨#[104,101,105,100]⟩)) (.cons (.assign 4 (.sliceTo (.var 0) (.bin .sub (.len (.var 0)) (.int 4)))) (.cons (.ite (.and (.cons (.cmp .ge (.len (.var 4)) (.var 2)) (.cons (.not (.endswith (.var 4) (.str ⟨#[99]⟩))) .nil))) (.cons (.assign 0 (.ite (.endswith (.var 4) (.str ⟨#[101,110]⟩)) (.callG 33 (.cons (.var 4) (.cons (.str ⟨#[101,110]⟩) (.cons (.var 1) .nil)))) (.var 4))) .nil) .nil) .nil)) .nil) (.cons (.assign 3 (.callG 30 (.cons (.var 0) (.cons (.list (.cons (.str ⟨#[101,110,100]⟩) (.cons (.str ⟨#[105,110,103]⟩) (.cons (.str ⟨#[105,103]⟩) (.cons (.str ⟨#[108,105,106,107]⟩) (.cons (.str ⟨#[98,97,97,114]⟩) (.cons (.str ⟨#[98,97,114]⟩) .nil))))))) .nil)))) (.cons (.assign 4 (.sliceTo (.var 0) (.bin .sub (.len (.var 0)) (.len (.var 3))))) (.cons (.ite (.and (.cons (.cmp .ne (.var 3) (.str ⟨#[]⟩)) (.cons (.cmp .ge (.len (.var 4)) (.var 2)) .nil))) (.cons (.ite (.cmp .isin (.var 3) (.list (.cons (.str ⟨#[101,110,100]⟩) (.cons (.str ⟨#[105,110,103]⟩) .nil)))) (.cons (.assign 6 (.sliceTo (.var 4) (.bin .sub (.len (.var 4)) (.int 2)))) (.cons (.ite (.and (.cons (.endswith (.var 4) (.str ⟨#[105,103]⟩)) (.cons (.cmp .ge (.len (.var 6)) (.var 2)) (.cons (.not (.endswith (.var 6) (.str ⟨#[101]⟩))) .nil)))) (.cons (.assign 0 (.var 6)) .nil) (.cons (.assign 0 (.callG 32 (.cons (.var 4) .nil))) .nil)) .nil)) (.cons (.ite (.cmp .eq (.var 3) (.str ⟨#[105,103]⟩)) (.cons (.assign 0 (.ite (.endswith (.var 4) (.str ⟨#[101]⟩)) (.var 0) (.var 4))) .nil) (.cons (.ite (.cmp .eq (.var 3) (.str ⟨#[108,105,106,107]⟩)) (.cons (.assign 0 (.callG 34 (.cons (.var 4) (.cons (.var 1) .nil)))) .nil) (.cons (.ite (.or (.cons (.cmp .eq (.var 3) (.str ⟨#[98,97,97,114]⟩)) (.cons (.var 5) .nil))) (.cons (.assign 0 (.var 4)) .nil) .nil) .nil)) .nil)) .nil)) .nil) .nil) (.cons (.assign 7 (.len (.var 0))) (.cons (.ite (.and (.cons (.cmp .ge (.var 7) (.int 4)) (.cons (.cmp .isin (.slice (.var 0) (.bin .sub (.var 7) (.int 3)) (.bin .sub (.var 7) (.int 1))) (.list (.cons (.str ⟨#[97,97]⟩) (.cons (.str ⟨#[101,101]⟩) (.cons (.str ⟨#[111,111]⟩) (.cons (.str ⟨#[117,117]⟩) .nil)))))) .nil))) (.cons (.ite (.and (.cons (.cmp .notin (.idx (.var 0) (.bin .sub (.var 7) (.int 4))) (.glob (.ofString "_law_vowels"))) (.cons (.cmp .notin (.idx (.var 0) (.bin .sub (.var 7) (.int 1))) (.bin .add (.glob (.ofString "_law_vowels")) (.list (.cons (.str ⟨#[73]⟩) .nil)))) .nil))) (.cons (.assign 0 (.bin .add (.sliceTo (.var 0) (.bin .sub (.var 7) (.int 2))) (.idx (.var 0) (.bin .sub (.var 7) (.int 1))))) .nil) .nil) .nil) .nil) (.cons (.ret (.join (.comp (.ite (.cmp .eq (.var 0) (.str ⟨#[73]⟩)) (.str ⟨#[105]⟩) (.ite (.cmp .eq (.var 0) (.str ⟨#[89]⟩)) (.str ⟨#[121]⟩) (.var 0))) (.var 0) []))) .nil)))))))))))))))
noncomputable def fns:List Fn:=[⟨1,[(.ofString "self")],c_init⟩,
  ⟨2,[(.ofString "self"),(.ofString "value")],c_set_current⟩,
  ⟨1,[(.ofString "self")],c_get_current⟩,
  ⟨2,[(.ofString "self"),(.ofString "s")],c_in_grouping⟩,
  ⟨2,[(.ofString "self"),(.ofString "s")],c_go_in_grouping⟩,
  ⟨2,[(.ofString "self"),(.ofString "s")],c_go_out_grouping⟩,
  ⟨2,[(.ofString "self"),(.ofString "s")],c_out_grouping_b⟩,
  ⟨2,[(.ofString "self"),(.ofString "s")],c_eq_s_b⟩,
  ⟨2,[(.ofString "self"),(.ofString "v"),(.ofString "i"),(.ofString "j"),(.ofString "c"),(.ofString "l"),(.ofString "common_i"),(.ofString "common_j"),(.ofString "first_key_inspected"),(.ofString "k"),(.ofString "diff"),(.ofString "common"),(.ofString "w"),(.ofString "i2")],c_find_among⟩,
  ⟨2,[(.ofString "self"),(.ofString "v"),(.ofString "i"),(.ofString "j"),(.ofString "c"),(.ofString "lb"),(.ofString "common_i"),(.ofString "common_j"),(.ofString "first_key_inspected"),(.ofString "k"),(.ofString "diff"),(.ofString "common"),(.ofString "w"),(.ofString "i2")],c_find_among_b⟩,
  ⟨4,[(.ofString "self"),(.ofString "c_bra"),(.ofString "c_ket"),(.ofString "s"),(.ofString "adjustment")],c_replace_s⟩,
  ⟨2,[(.ofString "self"),(.ofString "s")],c_slice_from⟩,
  ⟨1,[(.ofString "self")],c_slice_del⟩,
  ⟨2,[(.ofString "self"),(.ofString "word")],c_stemWord⟩,
  ⟨2,[(.ofString "self"),(.ofString "words")],c_stemWords⟩,
  ⟨1,[(.ofString "self"),(.ofString "v_1"),(.ofString "v_2"),(.ofString "among_var"),(.ofString "v_3"),(.ofString "v_4"),(.ofString "v_5"),(.ofString "v_6"),(.ofString "v_7")],c_r_prelude⟩,
  ⟨1,[(.ofString "self"),(.ofString "v_1"),(.ofString "I_x")],c_r_mark_regions⟩,
  ⟨1,[(.ofString "self"),(.ofString "v_1"),(.ofString "among_var")],c_r_postlude⟩,
  ⟨1,[(.ofString "self")],c_r_R1⟩,
  ⟨1,[(.ofString "self")],c_r_R2⟩,
  ⟨1,[(.ofString "self"),(.ofString "v_1")],c_r_undouble⟩,
  ⟨1,[(.ofString "self"),(.ofString "v_1")],c_r_e_ending⟩,
  ⟨1,[(.ofString "self"),(.ofString "v_1")],c_r_en_ending⟩,
  ⟨1,[(.ofString "self"),(.ofString "v_1"),(.ofString "among_var"),(.ofString "v_2"),(.ofString "v_3"),(.ofString "v_4"),(.ofString "v_5"),(.ofString "v_6"),(.ofString "v_7")],c_r_standard_suffix⟩,
  ⟨1,[(.ofString "self"),(.ofString "v_1"),(.ofString "v_2"),(.ofString "v_3")],c_stem⟩,
  ⟨0,[],c_law_pieces⟩,
  ⟨0,[],c_law_bare⟩,
  ⟨2,[(.ofString "numbers"),(.ofString "most"),(.ofString "word"),(.ofString "number"),(.ofString "k"),(.ofString "piece")],c_law_word⟩,
  ⟨1,[(.ofString "word"),(.ofString "bare"),(.ofString "marked"),(.ofString "place"),(.ofString "sign"),(.ofString "behind"),(.ofString "before")],c_law_marked⟩,
  ⟨1,[(.ofString "word"),(.ofString "borders"),(.ofString "first"),(.ofString "second")],c_law_regions⟩,
  ⟨2,[(.ofString "word"),(.ofString "ends"),(.ofString "found"),(.ofString "end")],c_law_ending⟩,
  ⟨2,[(.ofString "stem"),(.ofString "signs")],c_law_shut⟩,
  ⟨1,[(.ofString "stem")],c_law_single⟩,
  ⟨3,[(.ofString "word"),(.ofString "end"),(.ofString "first"),(.ofString "stem")],c_law_less_en⟩,
  ⟨2,[(.ofString "word"),(.ofString "first"),(.ofString "stem")],c_law_less_e⟩,
  ⟨1,[(.ofString "word"),(.ofString "first"),(.ofString "second"),(.ofString "end"),(.ofString "stem"),(.ofString "shorter"),(.ofString "root"),(.ofString "size")],c_law_stem⟩]
noncomputable abbrev i_init:Nat:=0
noncomputable abbrev i_set_current:Nat:=1
noncomputable abbrev i_get_current:Nat:=2
noncomputable abbrev i_in_grouping:Nat:=3
noncomputable abbrev i_go_in_grouping:Nat:=4
noncomputable abbrev i_go_out_grouping:Nat:=5
noncomputable abbrev i_out_grouping_b:Nat:=6
noncomputable abbrev i_eq_s_b:Nat:=7
noncomputable abbrev i_find_among:Nat:=8
noncomputable abbrev i_find_among_b:Nat:=9
noncomputable abbrev i_replace_s:Nat:=10
noncomputable abbrev i_slice_from:Nat:=11
noncomputable abbrev i_slice_del:Nat:=12
noncomputable abbrev i_stemWord:Nat:=13
noncomputable abbrev i_stemWords:Nat:=14
noncomputable abbrev i_r_prelude:Nat:=15
noncomputable abbrev i_r_mark_regions:Nat:=16
noncomputable abbrev i_r_postlude:Nat:=17
noncomputable abbrev i_r_R1:Nat:=18
noncomputable abbrev i_r_R2:Nat:=19
noncomputable abbrev i_r_undouble:Nat:=20
noncomputable abbrev i_r_e_ending:Nat:=21
noncomputable abbrev i_r_en_ending:Nat:=22
noncomputable abbrev i_r_standard_suffix:Nat:=23
noncomputable abbrev i_stem:Nat:=24
noncomputable abbrev i_law_pieces:Nat:=25
noncomputable abbrev i_law_bare:Nat:=26
noncomputable abbrev i_law_word:Nat:=27
noncomputable abbrev i_law_marked:Nat:=28
noncomputable abbrev i_law_regions:Nat:=29
noncomputable abbrev i_law_ending:Nat:=30
noncomputable abbrev i_law_shut:Nat:=31
noncomputable abbrev i_law_single:Nat:=32
noncomputable abbrev i_law_less_en:Nat:=33
noncomputable abbrev i_law_less_e:Nat:=34
noncomputable abbrev i_law_stem:Nat:=35
noncomputable def c_law1:CB:=(.cons (.assign 1 (.callG 27 (.cons (.sliceTo (.var 0) (.int 7)) (.cons (.int 24) .nil)))) (.cons (.assign 2 (.callG 27 (.cons (.slice (.var 0) (.int 7) (.int 11)) (.cons (.int 16) .nil)))) (.cons (.assign 3 (.callG 27 (.cons (.slice (.var 0) (.int 11) (.int 12)) (.cons (.int 16) .nil)))) .nil)))
noncomputable def c_law2:CB:=(.cons (.ite (.cmp .ne (.callM 4 13 (.cons (.var 1) .nil)) (.callG 35 (.cons (.var 1) .nil))) (.cons (.ret (.bool false)) .nil) .nil) (.cons (.ret (.cmp .eq (.callM 4 14 (.cons (.list (.cons (.var 2) (.cons (.var 3) .nil))) .nil)) (.list (.cons (.callG 35 (.cons (.var 2) .nil)) (.cons (.callG 35 (.cons (.var 3) .nil)) .nil))))) .nil))
noncomputable def signsS:Str:=⟨#[101,110,97,116,105,114,100,111,115,108,103,118,104,107,109,117,98,112,119,106,122,99,102,120,121,113,232,225,228,233,235,237,239,243,246,250,252,73,89,65,201,234,39,45]⟩
noncomputable def vowelsL:List Atom:=[Atom.str ⟨#[97]⟩,Atom.str ⟨#[101]⟩,Atom.str ⟨#[105]⟩,Atom.str ⟨#[111]⟩,Atom.str ⟨#[117]⟩,Atom.str ⟨#[121]⟩,Atom.str ⟨#[232]⟩]
noncomputable def amoRows:List (Nat × Str × Int × Int):=[(304,⟨#[]⟩,-1,6),(307,⟨#[225]⟩,0,1),(310,⟨#[228]⟩,0,1),(313,⟨#[233]⟩,0,2),(316,⟨#[235]⟩,0,2),(319,⟨#[237]⟩,0,3),(322,⟨#[239]⟩,0,3),(325,⟨#[243]⟩,0,4),(328,⟨#[246]⟩,0,4),(331,⟨#[250]⟩,0,5),(334,⟨#[252]⟩,0,5),(338,⟨#[]⟩,-1,3),(341,⟨#[73]⟩,0,2),(344,⟨#[89]⟩,0,1),(348,⟨#[100,100]⟩,-1,-1),(351,⟨#[107,107]⟩,-1,-1),(354,⟨#[116,116]⟩,-1,-1),(358,⟨#[101,110,101]⟩,-1,2),(361,⟨#[115,101]⟩,-1,3),(364,⟨#[101,110]⟩,-1,2),(367,⟨#[104,101,100,101,110]⟩,2,1),(370,⟨#[115]⟩,-1,3),(374,⟨#[101,110,100]⟩,-1,1),(377,⟨#[105,103]⟩,-1,2),(380,⟨#[105,110,103]⟩,-1,1),(383,⟨#[108,105,106,107]⟩,-1,3),(386,⟨#[98,97,97,114]⟩,-1,4),(389,⟨#[98,97,114]⟩,-1,5),(393,⟨#[97,97]⟩,-1,-1),(396,⟨#[101,101]⟩,-1,-1),(399,⟨#[111,111]⟩,-1,-1),(402,⟨#[117,117]⟩,-1,-1)]
noncomputable def amoAt:List (Nat × Str × Int × Int)→Addr→Str→Option Atom
  | [],_,_=>none
  | (b,s,i,r) :: l,a,x=>if a = b then (if x = .ofString "s" then some (.str s) else if x = .ofString "substring_i" then some (.int i) else if x = .ofString "result" then some (.int r) else none) else amoAt l a x
noncomputable def clsTab:List (Str × Addr):=[(.ofString "g_v",230),(.ofString "g_v_I",231),(.ofString "g_v_j",232),(.ofString "a_0",336),(.ofString "a_1",346),(.ofString "a_2",356),(.ofString "a_3",372),(.ofString "a_4",391),(.ofString "a_5",404)]
noncomputable def tabs:Tabs where
  glob x:=if x = .ofString "_law_signs" then some (.at (.str signsS)) else if x = .ofString "_law_vowels" then some (.list vowelsL) else none
  cattr x:=clsTab.lookup x
  amo:=amoAt amoRows
noncomputable def cl (n:Nat):Call:=callN tabs fns 1000 n
end Mine
namespace Mine
structure Sit where
  A:Around
  env:Env
  fr:List Env
  names:List Str
  inst:Option (Addr × Addr)
  os:OsState
noncomputable def fnames:List Str:=[.ofString "current",.ofString "cursor",.ofString "limit",.ofString "limit_backward",.ofString "bra",.ofString "ket",.ofString "I_p1",.ofString "I_p2",.ofString "B_e_found"]
noncomputable def RepA (I:Option (Addr × Addr)):Atom→Value→Prop
  | .int i,v=>∃ t,v = .int i t
  | .str x,v=>∃ t,v = .str x t
  | .cst c,v=>v = c
  | .me,v=>∃ x dx,I = some (x,dx)∧v = .ref x
inductive Reps (I:Option (Addr × Addr)):List Atom→List Value→Prop
  | nil:Reps I [] []
  | cons {a v l vs}:RepA I a v→Reps I l vs→Reps I (a :: l) (v :: vs)
noncomputable def DictIs (w:World) (h:Heap) (a:Addr) (l:List (Str × Str)):Prop:=(a == sysModules) = false∧∃ f,h.MapOf (strKind pw w) a f∧∀ x,∃ t,f x = (dictGet x l).map fun y=>Value.str y t
noncomputable def RangeIs (h:Heap) (a:Addr) (lo hi st:Int):Prop:=∃ t u v,h.get? a = some { cls:=.type "range",dict:=none,data:=.fields #[.int lo t,.int hi u,.int st v],slots:=#[] }
noncomputable def Apart (fr:List Env) (I:Option (Addr × Addr)) (a:Addr):Prop:=a ∉ fr.filterMap (·.frame)∧∀ x,I ≠ some (x,a)
noncomputable def OwnIs (h:Heap) (a:Addr) (vs:Array Value):Prop:=∃ o n,h.get? a = some o∧o.cls = .type "list"∧o.dict = none∧o.data = .seq vs n
noncomputable def TupIs (h:Heap) (a:Addr) (vs:Array Value):Prop:=∃ o n,h.get? a = some o∧o.cls = .type "tuple"∧o.data = .seq vs n
noncomputable def Rep (w:World) (fr:List Env) (I:Option (Addr × Addr)) (g:Option Addr) (h:Heap):AV→Value→Prop
  | .at a,v=>RepA I a v
  | .list l,v=>∃ a vs,v = .ref a∧g ≠ some a∧h.IsList a vs∧Reps I l vs.toList
  | .tup l,v=>∃ a vs,v = .ref a∧g ≠ some a∧TupIs h a vs∧Reps I l vs.toList
  | .own l,v=>∃ a vs,v = .ref a∧g = some a∧OwnIs h a vs∧Reps I l vs.toList
  | .dict l,v=>∃ a,v = .ref a∧g ≠ some a∧Apart fr I a∧DictIs w h a l
  | .rng lo hi st,v=>∃ a,v = .ref a∧g ≠ some a∧Apart fr I a∧RangeIs h a lo hi st
noncomputable def frA (fr:List Env):List Addr:=fr.filterMap (·.frame)
noncomputable def dl (I:Option (Addr × Addr)):List Addr:=match I with
  | some (_,dx)=>[dx]
  | none=>[]
structure Kp (fr:List Env) (D:List Addr) (h h':Heap):Prop where
  exact:∀ b o,h.get? b = some o→b ∉ D→b ∉ frA fr→h'.get? b = some o
  slots:∀ b o,h.get? b = some o→b ∉ D→∃ sl,h'.get? b = some { o with slots:=sl }
theorem Kp.refl (fr D h):Kp fr D h h:=⟨fun _ _ e _ _=>e,fun _ o e _=>⟨o.slots,e⟩⟩
theorem Kp.trans {fr D h₁ h₂ h₃} (x:Kp fr D h₁ h₂) (y:Kp fr D h₂ h₃):Kp fr D h₁ h₃:=
  ⟨fun b o e hd hf=>y.exact b o (x.exact b o e hd hf) hd hf,fun b o e hd=>let ⟨_,e₁⟩:=x.slots b o e hd;let ⟨sl,e₂⟩:=y.slots b _ e₁ hd;⟨sl,e₂⟩⟩
theorem Kp.of_keep {fr D h h'} (k:∀ b o,h.get? b = some o→h'.get? b = some o):Kp fr D h h':=⟨fun b o e _ _=>k b o e,fun b o e _=>⟨o.slots,k b o e⟩⟩
theorem Kp.of_but {fr:List Env} {D:List Addr} {h h':Heap} {a:Addr} (ha:a ∈ D) (k:∀ b o,b ≠ a→h.get? b = some o→h'.get? b = some o):Kp fr D h h':=
  ⟨fun b o e hd _=>k b o (fun q=>hd (q▸ha)) e,fun b o e hd=>⟨o.slots,k b o (fun q=>hd (q▸ha)) e⟩⟩
theorem Kp.mono {fr D D' h h'} (x:Kp fr D h h') (s:∀ b,b ∈ D→b ∈ D'):Kp fr D' h h':=
  ⟨fun b o e hd hf=>x.exact b o e (fun q=>hd (s b q)) hf,fun b o e hd=>x.slots b o e fun q=>hd (s b q)⟩
noncomputable def FieldIs (I:Option (Addr × Addr)):Option (Option Atom)→Option Value→Prop
  | some (some a),v=>∃ u,v = some u∧RepA I a u∧isPl a = true
  | _,v=>v = none
structure InstOk (fr:List Env) (B h:Heap) (x dx:Addr) (fl:FL):Prop where
  obj:h.get? x = some ⟨.ref 407,some dx,.plain,#[]⟩
  ns:∃ mA,h.Ns1 dx mA∧(∀ n,n ∉ fnames→mA n = none)∧(∀ (i:Nat) n,fnames[i]? = some n→FieldIs (some (x,dx)) (fl[i]?) (mA n))
  dcl:∃ o es ep,h.get? dx = some o∧o.data = .dict es ep
  len:fl.length = 9
  ne:dx ≠ x
  xf:x ∉ frA fr
  df:dx ∉ frA fr
  bx:B.get? x = none
  bd:B.get? dx = none
structure HInv (B:Heap) (fr:List Env) (I:Option (Addr × Addr)) (fl:FL) (h:Heap):Prop where
  stays:B.StaysIn h
  frs:h.FunFrames B fr
  inst:∀ x dx,I = some (x,dx)→InstOk fr B h x dx fl
noncomputable def ReadsVar (env:Env) (h:Heap) (x:Str) (v:Value):Prop:=
  (env.kindOf x = some .local∧∃ m,h.Ns env.locals m∧m x = some v) ∨
  (env.kindOf x = some .cell∧∃ c,env.cells.lookup x = some c∧∃ o,h.get? c = some o∧o.data = .cell (some v))
structure Inv (w:World) (B:Heap) (S:Sit) (g:Option Addr) (σ:AS) (s:Shared):Prop extends HInv B S.fr S.inst σ.fl s.heap where
  loc:∃ m,s.heap.Ns S.env.locals m
  vars:∀ (i:Nat) v,σ.loc[i]? = some (some v)→∃ x val,S.names[i]? = some x∧ReadsVar S.env s.heap x val∧Rep w S.fr S.inst g s.heap v val
  dr:∀ (i:Nat) v,σ.loc[i]? = some (some v)→v.isDR = false
  len:σ.loc.length = S.names.length
  ld:S.env.locals ∉ dl S.inst
  gown:∀ a,g = some a→hasOwn σ = true∧a ≠ S.env.locals∧a ∉ dl S.inst∧a ∉ frA S.fr∧B.get? a = none∧∃ vs,OwnIs s.heap a vs
  gens:s.gens = #[]
  os:s.os = S.os
structure Good (n:Nat) (B:Heap) (S:Sit):Prop where
  stack:S.A.frames = some S.fr
  handled:S.A.handled = none
  depth:S.A.depth+n+10 ≤ recursionLimit
  units:S.A.units+4 * n+200 ≤ cLine
  kind:S.env.scope.kind = .function
  globals:S.env.globals = mainGlobals
  builtins:S.env.builtins = builtinsNs
  nodup:S.names.Nodup
  newL:B.get? S.env.locals = none
theorem RepA.str {I:Option (Addr × Addr)} {x:Str} {t:Tok}:RepA I (.str x) (.str x t):=⟨t,rfl⟩
theorem RepA.int {I:Option (Addr × Addr)} {i:Int} {t:Tok}:RepA I (.int i) (.int i t):=⟨t,rfl⟩
theorem repA_cst {I:Option (Addr × Addr)} {v:Value}:RepA I (.cst v) v:=rfl
theorem Reps.get {I:Option (Addr × Addr)} {l:List Atom} {vs:List Value} (r:Reps I l vs):∀ {i:Nat} {a:Atom},l[i]? = some a→∃ v,vs[i]? = some v∧RepA I a v:=by
  induction r with
  | nil=>intro i a e;simp at e
  | cons ra _ ih=>
    intro i a e
    cases i with
    | zero=>simp at e;subst e;exact ⟨_,rfl,ra⟩
    | succ i=>simpa using ih (by simpa using e)
theorem Reps.len {I:Option (Addr × Addr)} {l:List Atom} {vs:List Value} (r:Reps I l vs):vs.length = l.length:=by
  induction r with
  | nil=>rfl
  | cons _ _ ih=>simp [ih]
theorem Reps.append {I:Option (Addr × Addr)} {l k:List Atom} {vs ws:List Value} (r:Reps I l vs) (q:Reps I k ws):Reps I (l ++ k) (vs ++ ws):=by
  induction r with
  | nil=>exact q
  | cons a _ ih=>exact .cons a ih
theorem Reps.take {I:Option (Addr × Addr)} {l:List Atom} {vs:List Value} (r:Reps I l vs) (n:Nat):Reps I (l.take n) (vs.take n):=by
  induction r generalizing n with
  | nil=>simp;exact .nil
  | cons a _ ih=>cases n with
    | zero=>exact .nil
    | succ n=>exact .cons a (ih n)
theorem Reps.drop {I:Option (Addr × Addr)} {l:List Atom} {vs:List Value} (r:Reps I l vs) (n:Nat):Reps I (l.drop n) (vs.drop n):=by
  induction r generalizing n with
  | nil=>simp;exact .nil
  | cons a r' ih=>cases n with
    | zero=>exact .cons a r'
    | succ n=>exact ih n
theorem isList_slots {h h':Heap} {a:Addr} {vs:Array Value} (x:h.IsList a vs) (k:∀ o,h.get? a = some o→∃ sl,h'.get? a = some { o with slots:=sl }):h'.IsList a vs:=by
  obtain ⟨o,ho,hc,n,hd⟩:=x
  obtain ⟨sl,e⟩:=k o ho
  exact ⟨_,e,hc,n,hd⟩
theorem frs_keep {B h h':Heap} {fr:List Env} (k:∀ b o,h.get? b = some o→b ∈ frA fr→∃ sl,h'.get? b = some { o with slots:=sl }):∀ {l:List Env},(∀ e ∈ l,e ∈ fr)→h.FunFrames B l→h'.FunFrames B l
  | [],_,_=>trivial
  | env :: r,hl,⟨hk,⟨L,o,hf,hn,ho,hd⟩,hr⟩=>by
    obtain ⟨sl,e⟩:=k L o ho (List.mem_filterMap.mpr ⟨env,hl env (.head _),hf⟩)
    exact ⟨hk,⟨L,_,hf,hn,e,hd⟩,frs_keep k (fun e he=>hl e (.tail _ he)) hr⟩
theorem Rep.keep {w:World} {fr:List Env} {I:Option (Addr × Addr)} {g:Option Addr} {h h':Heap} {v:AV} {val:Value} (r:Rep w fr I g h v val) (k:∀ b o,h.get? b = some o→(∃ vs n,o.data = .seq vs n)→∃ sl,h'.get? b = some { o with slots:=sl })
    (kd:∀ b o,h.get? b = some o→Apart fr I b→h'.get? b = some o):Rep w fr I g h' v val:=by
  cases v with
  | «at» a=>exact r
  | list l=>obtain ⟨a,vs,e,n,hl,q⟩:=r;exact ⟨a,vs,e,n,isList_slots hl fun o ho=>k a o ho (by obtain ⟨o',e',c,m,hd⟩:=hl;rw [ho] at e';cases e';exact ⟨_,m,hd⟩),q⟩
  | tup l=>
    obtain ⟨a,vs,e,n,⟨o,m,ho,hc,hd⟩,q⟩:=r
    obtain ⟨sl,e'⟩:=k a o ho ⟨_,m,hd⟩
    exact ⟨a,vs,e,n,⟨_,m,e',hc,hd⟩,q⟩
  | own l=>
    obtain ⟨a,vs,e,n,⟨o,m,ho,hc,hdd,hd⟩,q⟩:=r
    obtain ⟨sl,e'⟩:=k a o ho ⟨_,m,hd⟩
    exact ⟨a,vs,e,n,⟨_,m,e',hc,hdd,hd⟩,q⟩
  | dict l=>
    obtain ⟨a,e,n,z,y,f,⟨o,es,ep,ho,r1⟩,q⟩:=r
    exact ⟨a,e,n,z,y,f,⟨o,es,ep,kd a o ho z,r1⟩,q⟩
  | rng lo hi st=>
    obtain ⟨a,e,n,z,t,u,v,ha⟩:=r
    exact ⟨a,e,n,z,t,u,v,kd a _ ha z⟩
theorem mem_dl {I:Option (Addr × Addr)} {b:Addr} (h:b ∈ dl I):∃ x,I = some (x,b):=by
  cases I with
  | none=>simp [dl] at h
  | some p=>obtain ⟨x,dx⟩:=p;simp [dl] at h;exact ⟨x,by rw [h]⟩
theorem not_dl_data {B h:Heap} {fr:List Env} {I:Option (Addr × Addr)} {fl:FL} (H:HInv B fr I fl h) {a:Addr} {o:Obj} (e:h.get? a = some o) (hc:∀ es ep,o.data ≠ .dict es ep):a ∉ dl I:=fun m=>by
  obtain ⟨x,rfl⟩:=mem_dl m
  obtain ⟨o',es,ep,e',hd⟩:=(H.inst x a rfl).dcl
  rw [e] at e';cases e';exact hc es ep hd
theorem Rep.kp {w:World} {B h h':Heap} {fr:List Env} {I:Option (Addr × Addr)} {fl:FL} {g:Option Addr} {v:AV} {val:Value} (H:HInv B fr I fl h) (r:Rep w fr I g h v val) (k:Kp fr (dl I) h h'):Rep w fr I g h' v val:=
  r.keep (fun b o e hc=>k.slots b o e (not_dl_data H e fun es ep q=>by obtain ⟨vs,m,hd⟩:=hc;rw [q] at hd;cases hd)) fun b o e hn=>k.exact b o e (fun m=>let ⟨x,q⟩:=mem_dl m;hn.2 x q) hn.1
theorem InstOk.keep {fr:List Env} {B h h':Heap} {x dx:Addr} {fl:FL} (K:InstOk fr B h x dx fl) (k:∀ o,h.get? x = some o→h'.get? x = some o) (kd:∀ o,h.get? dx = some o→h'.get? dx = some o):InstOk fr B h' x dx fl:=by
  obtain ⟨a,⟨mA,⟨o,es,ep,ho,q1,q2,q3,q4⟩,q5⟩,⟨o',es',ep',b1,b2⟩,c,d,e,f,i,j⟩:=K
  exact ⟨k _ a,⟨mA,⟨o,es,ep,kd _ ho,q1,q2,q3,q4⟩,q5⟩,⟨o',es',ep',kd _ b1,b2⟩,c,d,e,f,i,j⟩
theorem HInv.keep {B h h':Heap} {fr:List Env} {I:Option (Addr × Addr)} {fl:FL} (H:HInv B fr I fl h) (k:∀ b o,h.get? b = some o→h'.get? b = some o):HInv B fr I fl h':=
  ⟨fun b o e=>k b o (H.stays b o e),frs_keep (fun b o e _=>⟨o.slots,k b o e⟩) (fun _ h=>h) H.frs,fun x dx q=>(H.inst x dx q).keep (k x) (k dx)⟩
theorem ns_slots {h h':Heap} {a:Addr} {m:Str→Option Value} (x:h.Ns a m) (k:∀ o,h.get? a = some o→∃ sl,h'.get? a = some { o with slots:=sl }):h'.Ns a m:=by
  obtain ⟨o,es,ep,ho,r⟩:=x
  obtain ⟨sl,e⟩:=k o ho
  exact ⟨_,es,ep,e,r⟩
theorem ReadsVar.kp {B h h':Heap} {fr:List Env} {I:Option (Addr × Addr)} {fl:FL} {env:Env} {x:Str} {v:Value} (H:HInv B fr I fl h) (hl:env.locals ∉ dl I) (k:Kp fr (dl I) h h') (r:ReadsVar env h x v):ReadsVar env h' x v:=by
  rcases r with ⟨a,m,hn,e⟩ | ⟨a,c,hc,o,ho,hd⟩
  · exact .inl ⟨a,m,ns_slots hn fun o q=>k.slots _ o q hl,e⟩
  · obtain ⟨sl,e⟩:=k.slots c o ho (not_dl_data H ho fun es ep q=>by rw [hd] at q;cases q)
    exact .inr ⟨a,c,hc,_,e,hd⟩
theorem Inv.kp {w:World} {B:Heap} {S:Sit} {g:Option Addr} {σ:AS} {s s':Shared} {fl':FL} (V:Inv w B S g σ s) (H:HInv B S.fr S.inst fl' s'.heap) (k:Kp S.fr (dl S.inst) s.heap s'.heap) (hg:s'.gens = #[]) (ho:s'.os = S.os) :
    Inv w B S g ⟨σ.loc,fl'⟩ s' where
  toHInv:=H
  loc:=let ⟨m,hn⟩:=V.loc;⟨m,ns_slots hn fun o q=>k.slots _ o q V.ld⟩
  vars i v e:=let ⟨x,val,h1,h2,h3⟩:=V.vars i v e;⟨x,val,h1,h2.kp V.toHInv V.ld k,h3.kp V.toHInv k⟩
  dr:=V.dr
  len:=V.len
  ld:=V.ld
  gown a e:=by
    obtain ⟨h1,h2,h3,h4,h5,vs,o,n,e1,e2,e3,e4⟩:=V.gown a e
    obtain ⟨sl,q⟩:=k.slots a o e1 h3
    exact ⟨h1,h2,h3,h4,h5,vs,_,n,q,e2,e3,e4⟩
  gens:=hg
  os:=ho
theorem Inv.keep {w:World} {B:Heap} {S:Sit} {g:Option Addr} {σ:AS} {s s':Shared} (V:Inv w B S g σ s) (k:∀ b o,s.heap.get? b = some o→s'.heap.get? b = some o) (hg:s'.gens = s.gens:=by rfl) (ho:s'.os = s.os:=by rfl):Inv w B S g σ s':=
  V.kp (V.toHInv.keep k) (.of_keep k) (hg.trans V.gens) (ho.trans V.os)
noncomputable def Post (w:World) (B:Heap) (S:Sit) (g:Option Addr) (σ:AS) (s:Shared) (fl:FL) (v:AV) (Q:Value→Shared→Prop):Prop:=
  ∀ val s',Inv w B S g ⟨σ.loc,fl⟩ s'→Kp S.fr (dl S.inst) s.heap s'.heap→Rep w S.fr S.inst g s'.heap v val→Q val s'
noncomputable abbrev MM (w:World):Model:=model pw w
end Mine
namespace Mine
noncomputable abbrev aI (i:Int):Option Atom:=some (.int i)
noncomputable abbrev aS (x:Str):Option Atom:=some (.str x)
noncomputable abbrev vI (i:Int):Option AV:=some (.at (.int i))
theorem cl_at {n f:Nat} {vs:List AV} {fl:FL} {F:Fn} (hF:fns[f]? = some F) (hl:vs.length = F.np):cl (n+1) f vs fl = retOf (evB tabs (cl n) 1000 F.body ⟨vs.map some ++ List.replicate (F.names.length - F.np) none,fl⟩):=by
  show (fns[f]?).bind (fun F=>iff (decide (vs.length = F.np)) (retOf (evB tabs (cl n) 1000 F.body ⟨vs.map some ++ List.replicate (F.names.length - F.np) none,fl⟩))) = _
  rw [hF]
  show iff (decide (vs.length = F.np)) _ = _
  rw [decide_eq_true hl];rfl
noncomputable def okv:Option AV→Bool
  | some (.own _)=>false
  | _=>true
theorem okSet_eq (i:Nat) (σ:AS):okSet i σ = (match σ.loc[i]? with | some x=>okv x | none=>false):=by
  unfold okSet okv
  cases σ.loc[i]? with
  | none=>rfl
  | some x=>cases x with
    | none=>rfl
    | some v=>cases v<;>rfl
theorem hasOwn_eq (σ:AS):hasOwn σ = σ.loc.any fun o=>!okv o:=by
  unfold hasOwn
  congr 1
  funext o
  cases o with
  | none=>rfl
  | some v=>cases v<;>rfl
@[simp] theorem okv_none:okv none = true:=rfl
@[simp] theorem okv_at (a:Atom):okv (some (.at a)) = true:=rfl
section
variable {T:Tabs} {Γ:Call} {N:Nat} {s:CS} {r:CB} {σ σ':AS} {fl fl':FL}
theorem B_next (h:evS T Γ N s σ = some (σ',.next)):evB T Γ N (.cons s r) σ = evB T Γ N r σ':=congrArg (thenN · (evB T Γ N r)) h
theorem B_brk (h:evS T Γ N s σ = some (σ',.brk)):evB T Γ N (.cons s r) σ = some (σ',.brk):=congrArg (thenN · (evB T Γ N r)) h
theorem B_cont (h:evS T Γ N s σ = some (σ',.cont)):evB T Γ N (.cons s r) σ = some (σ',.cont):=congrArg (thenN · (evB T Γ N r)) h
theorem B_ret {v:AV} (h:evS T Γ N s σ = some (σ',.ret v)):evB T Γ N (.cons s r) σ = some (σ',.ret v):=congrArg (thenN · (evB T Γ N r)) h
theorem B_exc {k:Nat} (h:evS T Γ N s σ = some (σ',.exc k)):evB T Γ N (.cons s r) σ = some (σ',.exc k):=congrArg (thenN · (evB T Γ N r)) h
theorem B_nil:evB T Γ N .nil σ = some (σ,.next):=rfl
theorem B_raise {k:Nat}:evB T Γ N (.cons (.raise k) r) σ = some (σ,.exc k):=rfl
theorem B_one:evB T Γ N (.cons s .nil) σ = evS T Γ N s σ:=by
  show thenN (evS T Γ N s σ) _ = _
  cases h:evS T Γ N s σ with
  | none=>rfl
  | some p=>obtain ⟨σ',o⟩:=p;cases o<;>rfl
theorem S_true {t:CE} {a b:CB} (h:evT T Γ t σ = some (true,fl)):evS T Γ N (.ite t a b) σ = evB T Γ N a ⟨σ.loc,fl⟩:=congrArg (otb · (fun fl=>evB T Γ N a ⟨σ.loc,fl⟩) (fun fl=>evB T Γ N b ⟨σ.loc,fl⟩)) h
theorem S_false {t:CE} {a b:CB} (h:evT T Γ t σ = some (false,fl)):evS T Γ N (.ite t a b) σ = evB T Γ N b ⟨σ.loc,fl⟩:=congrArg (otb · (fun fl=>evB T Γ N a ⟨σ.loc,fl⟩) (fun fl=>evB T Γ N b ⟨σ.loc,fl⟩)) h
theorem S_if {te:CE} {A B:CB} {v:Bool} (h:evT T Γ te σ = some (v,fl)):evS T Γ N (.ite te A B) σ = if v then evB T Γ N A ⟨σ.loc,fl⟩ else evB T Γ N B ⟨σ.loc,fl⟩:=by
  cases v with
  | true=>exact S_true h
  | false=>exact S_false h
theorem T_val {t:CE} {v w:Bool} (h:evT T Γ t σ = some (v,fl)) (hv:v = w):evT T Γ t σ = some (w,fl):=hv▸h
theorem T_of {e:CE} {v:Bool} (h:evE T Γ e σ = some (ab v,fl)):evT T Γ e σ = some (v,fl):=congrArg (ob · fun v fl=>(truth v).map fun b=>(b,fl)) h
theorem E_int {m:Int}:evE T Γ (.int m) σ = some (ai m,σ.fl):=rfl
theorem E_str {s:Str}:evE T Γ (.str s) σ = some (as s,σ.fl):=rfl
theorem E_var {i:Nat} {v:AV} (h:σ.loc[i]? = some (some v)):evE T Γ (.var i) σ = some (v,σ.fl):=by
  show (locGet σ i).map _ = _
  unfold locGet;rw [h];rfl
theorem E_fld {i:Nat} {a:Atom} (h0:selfIs σ = true) (h:σ.fl[i]? = some (some a)):evE T Γ (.fld i) σ = some (.at a,σ.fl):=by
  show (if selfIs σ then (fldGet σ.fl i).map _ else none) = _
  unfold fldGet;rw [h0,h];rfl
theorem E_amo {e:CE} {x:Str} {a:Addr} {v:Atom} (h:evE T Γ e σ = some (.at (.cst (.ref a)),fl)) (hv:T.amo a x = some v):evE T Γ (.amo e x) σ = some (.at v,fl):=
  (congrArg (obR · fun a fl=>(T.amo a x).map fun v=>(AV.at v,fl)) h).trans (congrArg (Option.map fun v=>(AV.at v,fl)) hv)
theorem two_step {a b:CE} {x y:AV} {v:AV} {op:AV→AV→Option AV} (h1:evE T Γ a σ = some (x,fl)) (h2:evE T Γ b ⟨σ.loc,fl⟩ = some (y,fl')) (h3:op x y = some v) :
    (ob (evE T Γ a σ) fun x fl=>ob (evE T Γ b ⟨σ.loc,fl⟩) fun y fl'=>(op x y).map fun v=>(v,fl')) = some (v,fl'):=
  (congrArg (ob · fun x fl=>ob (evE T Γ b ⟨σ.loc,fl⟩) fun y fl'=>(op x y).map fun v=>(v,fl')) h1).trans
    ((congrArg (ob · fun y fl'=>(op x y).map fun v=>(v,fl')) h2).trans (congrArg (Option.map fun v=>(v,fl')) h3))
theorem E_bin' {o:Bop} {a b:CE} {x y v:AV} (h1:evE T Γ a σ = some (x,fl)) (h2:evE T Γ b ⟨σ.loc,fl⟩ = some (y,fl')) (h3:binV o x y = some v):evE T Γ (.bin o a b) σ = some (v,fl'):=two_step (op:=binV o) h1 h2 h3
theorem E_cmp' {o:Cop} {a b:CE} {x y:AV} {v:Bool} (h1:evE T Γ a σ = some (x,fl)) (h2:evE T Γ b ⟨σ.loc,fl⟩ = some (y,fl')) (h3:cmpV o x y = some v):evE T Γ (.cmp o a b) σ = some (ab v,fl'):=
  (congrArg (ob · fun x fl=>ob (evE T Γ b ⟨σ.loc,fl⟩) fun y fl'=>(cmpV o x y).map fun v=>(ab v,fl')) h1).trans
    ((congrArg (ob · fun y fl'=>(cmpV o x y).map fun v=>(ab v,fl')) h2).trans (congrArg (Option.map fun v=>(ab v,fl')) h3))
theorem E_bin {o:Bop} {a b:CE} {x y v:AV} (h1:evE T Γ a σ = some (x,σ.fl)) (h2:evE T Γ b σ = some (y,σ.fl)) (h3:binV o x y = some v):evE T Γ (.bin o a b) σ = some (v,σ.fl):=E_bin' h1 h2 h3
theorem E_cmp {o:Cop} {a b:CE} {x y:AV} {v:Bool} (h1:evE T Γ a σ = some (x,σ.fl)) (h2:evE T Γ b σ = some (y,σ.fl)) (h3:cmpV o x y = some v):evE T Γ (.cmp o a b) σ = some (ab v,σ.fl):=E_cmp' h1 h2 h3
theorem E_idx {a b:CE} {x y v:AV} (h1:evE T Γ a σ = some (x,σ.fl)) (h2:evE T Γ b σ = some (y,σ.fl)) (h3:idxV x y = some v):evE T Γ (.idx a b) σ = some (v,σ.fl):=two_step (op:=idxV) h1 h2 h3
theorem E_ends {a b:CE} {x y v:AV} (h1:evE T Γ a σ = some (x,σ.fl)) (h2:evE T Γ b σ = some (y,σ.fl)) (h3:endsV x y = some v):evE T Γ (.endswith a b) σ = some (v,σ.fl):=two_step (op:=endsV) h1 h2 h3
theorem T_cmp {o:Cop} {a b:CE} {x y:AV} {v:Bool} (h1:evE T Γ a σ = some (x,fl)) (h2:evE T Γ b ⟨σ.loc,fl⟩ = some (y,fl')) (h3:cmpV o x y = some v):evT T Γ (.cmp o a b) σ = some (v,fl'):=T_of (E_cmp' h1 h2 h3)
theorem E_len {a:CE} {x v:AV} (h1:evE T Γ a σ = some (x,fl)) (h3:lenV x = some v):evE T Γ (.len a) σ = some (v,fl):=
  (congrArg (ob · fun x fl=>(lenV x).map fun v=>(v,fl)) h1).trans (congrArg (Option.map fun v=>(v,fl)) h3)
theorem E_ord {a:CE} {x:Nat} (h1:evE T Γ a σ = some (as (chr1 x),fl)):evE T Γ (.ord a) σ = some (ai x,fl):=congrArg (obS · fun s fl=>(ordV s).map fun v=>(v,fl)) h1
theorem E_min {a b:CE} {x y:Int} (h1:evE T Γ a σ = some (ai x,σ.fl)) (h2:evE T Γ b σ = some (ai y,σ.fl)):evE T Γ (.min a b) σ = some (ai (if y < x then y else x),σ.fl):=
  (congrArg (obI · fun x fl=>obI (evE T Γ b ⟨σ.loc,fl⟩) fun y fl'=>some (ai (if y < x then y else x),fl')) h1).trans (congrArg (obI · fun y fl'=>some (ai (if y < x then y else x),fl')) h2)
theorem E_max {a b:CE} {x y:Int} (h1:evE T Γ a σ = some (ai x,σ.fl)) (h2:evE T Γ b σ = some (ai y,σ.fl)):evE T Γ (.max a b) σ = some (ai (if y > x then y else x),σ.fl):=
  (congrArg (obI · fun x fl=>obI (evE T Γ b ⟨σ.loc,fl⟩) fun y fl'=>some (ai (if y > x then y else x),fl')) h1).trans (congrArg (obI · fun y fl'=>some (ai (if y > x then y else x),fl')) h2)
theorem E_not' {a:CE} {v:Bool} (h:evE T Γ a σ = some (ab v,fl)):evE T Γ (.not a) σ = some (ab (!v),fl):=congrArg (ob · fun x fl=>(truth x).map fun b=>(ab (!b),fl)) h
theorem E_not {a:CE} {v:Bool} (h:evE T Γ a σ = some (ab v,σ.fl)):evE T Γ (.not a) σ = some (ab (!v),σ.fl):=E_not' h
theorem T_notc {a:CE} {v:Bool} (h:evE T Γ a σ = some (ab v,fl)):evT T Γ (.not a) σ = some (!v,fl):=T_of (E_not' h)
theorem E_sliceTo {a b:CE} {x v:AV} {h:Int} (h1:evE T Γ a σ = some (x,σ.fl)) (h2:evE T Γ b σ = some (ai h,σ.fl)) (h3:sliceV x none (some h) = some v):evE T Γ (.sliceTo a b) σ = some (v,σ.fl):=
  (congrArg (ob · fun x fl=>obI (evE T Γ b ⟨σ.loc,fl⟩) fun h fl'=>(sliceV x none (some h)).map fun v=>(v,fl')) h1).trans
    ((congrArg (obI · fun h fl'=>(sliceV x none (some h)).map fun v=>(v,fl')) h2).trans (congrArg (Option.map fun v=>(v,σ.fl)) h3))
theorem E_sliceFrom {a b:CE} {x v:AV} {h:Int} (h1:evE T Γ a σ = some (x,σ.fl)) (h2:evE T Γ b σ = some (ai h,σ.fl)) (h3:sliceV x (some h) none = some v):evE T Γ (.sliceFrom a b) σ = some (v,σ.fl):=
  (congrArg (ob · fun x fl=>obI (evE T Γ b ⟨σ.loc,fl⟩) fun h fl'=>(sliceV x (some h) none).map fun v=>(v,fl')) h1).trans
    ((congrArg (obI · fun h fl'=>(sliceV x (some h) none).map fun v=>(v,fl')) h2).trans (congrArg (Option.map fun v=>(v,σ.fl)) h3))
theorem E_slice {a b c:CE} {x v:AV} {lo hi:Int} (h1:evE T Γ a σ = some (x,σ.fl)) (h2:evE T Γ b σ = some (ai lo,σ.fl)) (h3:evE T Γ c σ = some (ai hi,σ.fl)) (h4:sliceV x (some lo) (some hi) = some v):evE T Γ (.slice a b c) σ = some (v,σ.fl):=
  (congrArg (ob · fun x fl=>obI (evE T Γ b ⟨σ.loc,fl⟩) fun l fl'=>obI (evE T Γ c ⟨σ.loc,fl'⟩) fun h fl''=>(sliceV x (some l) (some h)).map fun v=>(v,fl'')) h1).trans
    ((congrArg (obI · fun l fl'=>obI (evE T Γ c ⟨σ.loc,fl'⟩) fun h fl''=>(sliceV x (some l) (some h)).map fun v=>(v,fl'')) h2).trans
      ((congrArg (obI · fun h fl''=>(sliceV x (some lo) (some h)).map fun v=>(v,fl'')) h3).trans (congrArg (Option.map fun v=>(v,σ.fl)) h4)))
theorem E_ite {t a b:CE} {v:Bool} (h:evE T Γ t σ = some (ab v,σ.fl)):evE T Γ (.ite t a b) σ = if v then evE T Γ a σ else evE T Γ b σ:=by
  refine (congrArg (ob · fun x fl=>tb (truth x) (evE T Γ a ⟨σ.loc,fl⟩) (evE T Γ b ⟨σ.loc,fl⟩)) h).trans ?_
  cases v<;>rfl
theorem E_range1 {e:CE} {h:Int} (h1:evE T Γ e σ = some (ai h,σ.fl)) (hv:rgOk h = true):evE T Γ (.range (.cons e .nil)) σ = some (.rng 0 h 1,σ.fl):=by
  have ha:evA T Γ (.cons e .nil) σ = some ([ai h],σ.fl):=congrArg (ob · fun v fl=>obL (evA T Γ .nil ⟨σ.loc,fl⟩) fun vs fl'=>some (v :: vs,fl')) h1
  refine (congrArg (obL · fun vs fl=>(rangeV vs).map fun v=>(v,fl)) ha).trans ?_
  show (iff (rgOk h) (some (AV.rng 0 h 1))).map _ = _
  rw [hv];rfl
theorem A1 {a:CE} {x:AV} (h1:evE T Γ a σ = some (x,fl)):evA T Γ (.cons a .nil) σ = some ([x],fl):=congrArg (ob · fun v fl=>obL (evA T Γ .nil ⟨σ.loc,fl⟩) fun vs fl'=>some (v :: vs,fl')) h1
theorem A_cons {a:CE} {l:CA} {x:AV} {xs:List AV} (h1:evE T Γ a σ = some (x,σ.fl)) (h2:evA T Γ l σ = some (xs,σ.fl)):evA T Γ (.cons a l) σ = some (x :: xs,σ.fl):=
  (congrArg (ob · fun v fl=>obL (evA T Γ l ⟨σ.loc,fl⟩) fun vs fl'=>some (v :: vs,fl')) h1).trans (congrArg (obL · fun vs fl'=>some (x :: vs,fl')) h2)
theorem A2 {a b:CE} {x y:AV} (h1:evE T Γ a σ = some (x,σ.fl)) (h2:evE T Γ b σ = some (y,σ.fl)):evA T Γ (.cons a (.cons b .nil)) σ = some ([x,y],σ.fl):=A_cons h1 (A1 h2)
theorem A3 {a b c:CE} {x y z:AV} (h1:evE T Γ a σ = some (x,σ.fl)) (h2:evE T Γ b σ = some (y,σ.fl)) (h3:evE T Γ c σ = some (z,σ.fl)):evA T Γ (.cons a (.cons b (.cons c .nil))) σ = some ([x,y,z],σ.fl):=A_cons h1 (A2 h2 h3)
theorem A_nil:evA T Γ .nil σ = some ([],σ.fl):=rfl
theorem A_str {x:Str}:evA T Γ (.cons (.str x) .nil) σ = some ([as x],σ.fl):=rfl
theorem A_cattr {x:Str} {a:Addr} (h:T.cattr x = some a):evA T Γ (.cons (.cattr x) .nil) σ = some ([.at (.cst (.ref a))],σ.fl):=A1 (congrArg (Option.map fun a=>(AV.at (.cst (.ref a)),σ.fl)) h)
theorem E_range {l:CA} {vs:List AV} {v:AV} (h1:evA T Γ l σ = some (vs,σ.fl)) (h2:rangeV vs = some v):evE T Γ (.range l) σ = some (v,σ.fl):=
  (congrArg (obL · fun vs fl=>(rangeV vs).map fun v=>(v,fl)) h1).trans (congrArg (Option.map fun v=>(v,σ.fl)) h2)
theorem E_callG {f:Nat} {l:CA} {vs:List AV} {r:AV × FL} (ha:evA T Γ l σ = some (vs,fl)) (hs:vs.all AV.isSt = true) (ho:hasOwn σ = false) (hc:Γ f vs fl = some r):evE T Γ (.callG f l) σ = some r:=by
  refine (congrArg (obL · fun vs fl=>if !vs.all AV.isSt || hasOwn σ then none else Γ f vs fl) ha).trans ?_
  show (if !vs.all AV.isSt || hasOwn σ then none else Γ f vs fl) = _
  rw [hs,ho];exact hc
theorem E_callM {i f:Nat} {l:CA} {vs:List AV} {r:AV × FL} (h0:σ.loc[i]? = some (some (.at .me))) (ha:evA T Γ l σ = some (vs,fl)) (hs:vs.all AV.isSt = true) (ho:hasOwn σ = false) (hc:Γ f (.at .me :: vs) fl = some r):evE T Γ (.callM i f l) σ = some r:=by
  show (if isMe (locGet σ i) then _ else none) = _
  unfold locGet
  rw [h0]
  refine (congrArg (obL · fun vs fl=>if !vs.all AV.isSt || hasOwn σ then none else Γ f (.at .me :: vs) fl) ha).trans ?_
  show (if !vs.all AV.isSt || hasOwn σ then none else Γ f (.at .me :: vs) fl) = _
  rw [hs,ho];exact hc
theorem AN_cons {a b:CE} {r:CA} {v:Bool} (h:evE T Γ a σ = some (ab v,σ.fl)):evAnd T Γ (.cons a (.cons b r)) σ = if v then evAnd T Γ (.cons b r) σ else some (ab false,σ.fl):=by
  refine (congrArg (ob · fun x fl=>tb (truth x) (evAnd T Γ (.cons b r) ⟨σ.loc,fl⟩) (some (ab false,fl))) h).trans ?_
  cases v<;>rfl
theorem AN_one {a:CE} {v:Bool} (h:evE T Γ a σ = some (ab v,σ.fl)):evAnd T Γ (.cons a .nil) σ = some (ab v,σ.fl):=congrArg (ob · fun x fl=>(truth x).map fun b=>(ab b,fl)) h
theorem OR_cons {a b:CE} {r:CA} {v:Bool} (h:evE T Γ a σ = some (ab v,σ.fl)):evOr T Γ (.cons a (.cons b r)) σ = if v then some (ab true,σ.fl) else evOr T Γ (.cons b r) σ:=by
  refine (congrArg (ob · fun x fl=>tb (truth x) (some (ab true,fl)) (evOr T Γ (.cons b r) ⟨σ.loc,fl⟩)) h).trans ?_
  cases v<;>rfl
theorem OR_one {a:CE} {v:Bool} (h:evE T Γ a σ = some (ab v,σ.fl)):evOr T Γ (.cons a .nil) σ = some (ab v,σ.fl):=congrArg (ob · fun x fl=>(truth x).map fun b=>(ab b,fl)) h
theorem E_and2 {a b:CE} {va vb:Bool} (ha:evE T Γ a σ = some (ab va,σ.fl)) (hb:va = true→evE T Γ b σ = some (ab vb,σ.fl)):evE T Γ (.and (.cons a (.cons b .nil))) σ = some (ab (va && vb),σ.fl):=by
  refine (AN_cons ha).trans ?_
  cases va with
  | false=>rfl
  | true=>exact AN_one (hb rfl)
theorem E_and3 {a b c:CE} {va vb vc:Bool} (ha:evE T Γ a σ = some (ab va,σ.fl)) (hb:va = true→evE T Γ b σ = some (ab vb,σ.fl)) (hc:va = true→vb = true→evE T Γ c σ = some (ab vc,σ.fl)):evE T Γ (.and (.cons a (.cons b (.cons c .nil)))) σ = some (ab (va && (vb && vc)),σ.fl):=by
  refine (AN_cons ha).trans ?_
  cases va with
  | false=>rfl
  | true=>
    refine (AN_cons (hb rfl)).trans ?_
    cases vb with
    | false=>rfl
    | true=>exact AN_one (hc rfl rfl)
theorem E_or2 {a b:CE} {va vb:Bool} (ha:evE T Γ a σ = some (ab va,σ.fl)) (hb:va = false→evE T Γ b σ = some (ab vb,σ.fl)):evE T Γ (.or (.cons a (.cons b .nil))) σ = some (ab (va || vb),σ.fl):=by
  refine (OR_cons ha).trans ?_
  cases va with
  | true=>rfl
  | false=>exact OR_one (hb rfl)
theorem T_not {e:CE} {v:Bool} (h:evE T Γ e σ = some (ab v,fl)):evT T Γ (.not e) σ = some (!v,fl):=T_of (E_not' h)
theorem S_expr {e:CE} {v:AV} (h:evE T Γ e σ = some (v,fl)):evS T Γ N (.expr e) σ = some (⟨σ.loc,fl⟩,.next):=congrArg (ob · fun _ fl=>some ((⟨σ.loc,fl⟩:AS),Out.next)) h
theorem S_ret {e:CE} {v:AV} (h:evE T Γ e σ = some (v,fl)) (ho:v.isOwn = false):evS T Γ N (.ret e) σ = some (⟨σ.loc,fl⟩,.ret v):=by
  refine (congrArg (ob · fun v fl=>if v.isOwn then none else some ((⟨σ.loc,fl⟩:AS),Out.ret v)) h).trans ?_
  show (if v.isOwn then none else _) = _
  rw [ho];rfl
theorem S_assign {i:Nat} {e:CE} {v:AV} (h:evE T Γ e σ = some (v,fl)) (hs:v.isSt = true) (ho:okSet i σ = true):evS T Γ N (.assign i e) σ = some (bindV i v σ fl,.next):=by
  refine (congrArg (ob · fun v fl=>if !v.isSt || !okSet i σ then none else some (bindV i v σ fl,Out.next)) h).trans ?_
  show (if !v.isSt || !okSet i σ then none else _) = _
  rw [hs,ho];rfl
theorem S_setf {i:Nat} {e:CE} {a:Atom} (hs:selfIs σ = true) (h:evE T Γ e σ = some (.at a,fl)) (hp:isPl a = true):evS T Γ N (.setf i e) σ = some (⟨σ.loc,fl.set i (some a)⟩,.next):=by
  show (if selfIs σ then _ else none) = _
  rw [hs]
  refine (congrArg (obA · fun a fl=>if isPl a then some ((⟨σ.loc,fl.set i (some a)⟩:AS),Out.next) else none) h).trans ?_
  show (if isPl a then _ else none) = _
  rw [hp];rfl
theorem S_augf {i:Nat} {o:Bop} {e:CE} {a b:Atom} {v:AV} (hs:selfIs σ = true) (hi:σ.fl[i]? = some (some a)) (h:evE T Γ e σ = some (v,fl)) (hv:augV o (.at a) v = some (.at b)) (hp:isPl b = true):evS T Γ N (.augf i o e) σ = some (⟨σ.loc,fl.set i (some b)⟩,.next):=by
  show (if selfIs σ then (fldGet σ.fl i).bind _ else none) = _
  unfold fldGet
  rw [hs,hi]
  refine (congrArg (ob · fun v fl=>(atOf (augV o (.at a) v)).bind fun b=>if isPl b then some ((⟨σ.loc,fl.set i (some b)⟩:AS),Out.next) else none) h).trans ?_
  show (atOf (augV o (.at a) v)).bind (fun b=>if isPl b then some ((⟨σ.loc,fl.set i (some b)⟩:AS),Out.next) else none) = _
  rw [hv]
  show (if isPl b then _ else none) = _
  rw [hp];rfl
theorem S_aug {i:Nat} {o:Bop} {e:CE} {a v:AV} {b:Atom} (hi:σ.loc[i]? = some (some a)) (h:evE T Γ e σ = some (v,fl)) (hv:augV o a v = some (.at b)):evS T Γ N (.aug i o e) σ = some (bindV i (.at b) σ fl,.next):=by
  show (locGet σ i).bind _ = _
  unfold locGet
  rw [hi]
  refine (congrArg (ob · fun v fl=>(atOf (augV o a v)).map fun b=>(bindV i (.at b) σ fl,Out.next)) h).trans ?_
  show (atOf (augV o a v)).map (fun b=>(bindV i (.at b) σ fl,Out.next)) = _
  rw [hv];rfl
theorem S_assert {e:CE} (h:evT T Γ e σ = some (true,fl)):evS T Γ N (.assert e) σ = some (⟨σ.loc,fl⟩,.next):=congrArg (otb · (fun fl=>some ((⟨σ.loc,fl⟩:AS),Out.next)) (fun _=>none)) h
theorem S_while {t:CE} {b:CB}:evS T Γ N (.while t b) σ = whileN (evT T Γ t) (fun σ=>evB T Γ N b σ) N σ:=rfl
theorem S_for {i:Nat} {e:CE} {b:CB} {v:AV} {its:List Atom} (h:evE T Γ e σ = some (v,fl)) (hi:iterV v = some its):evS T Γ N (.for i e b) σ = forN i (fun σ=>evB T Γ N b σ) its ⟨σ.loc,fl⟩:=
  (congrArg (ob · fun v fl=>(iterV v).bind fun its=>forN i (fun σ=>evB T Γ N b σ) its ⟨σ.loc,fl⟩) h).trans (congrArg (·.bind fun its=>forN i (fun σ=>evB T Γ N b σ) its ⟨σ.loc,fl⟩) hi)
theorem S_try {k:Nat} {b:CB} {r:AS} {o:Out} (h:evB T Γ N b σ = some (r,o)) (ho:∀ j,o ≠ .exc j):evS T Γ N (.try k b) σ = some (r,o):=by
  refine (congrArg (exq k) h).trans ?_
  cases o<;>first | rfl | exact absurd rfl (ho _)
theorem S_tryx {k:Nat} {b:CB} {r:AS} (h:evB T Γ N b σ = some (r,.exc k)):evS T Γ N (.try k b) σ = some (r,.next):=(congrArg (exq k) h).trans (if_pos rfl)
theorem S_tryp {k j:Nat} {b:CB} {r:AS} (h:evB T Γ N b σ = some (r,.exc j)) (hj:¬ labA j = labA k):evS T Γ N (.try k b) σ = some (r,.exc j):=(congrArg (exq k) h).trans (if_neg hj)
theorem S_cont:evS T Γ N .cont σ = some (σ,.cont):=rfl
theorem S_brk:evS T Γ N .brk σ = some (σ,.brk):=rfl
theorem t_true (σ:AS):evT T Γ (.bool true) σ = some (true,σ.fl):=rfl
theorem ret_false:evB T Γ N (.cons (.ret (.bool false)) r) σ = some (σ,.ret (ab false)):=rfl
theorem ret_true:evB T Γ N (.cons (.ret (.bool true)) r) σ = some (σ,.ret (ab true)):=rfl
theorem B_skip {t:CE} {a rest:CB} (h:evT T Γ t σ = some (false,fl)):evB T Γ N (.cons (.ite t a .nil) rest) σ = evB T Γ N rest ⟨σ.loc,fl⟩:=B_next (S_false h)
theorem B_quit {t:CE} {rest:CB} (h:evT T Γ t σ = some (true,fl)):evB T Γ N (.cons (.ite t (.cons (.ret (.bool false)) .nil) .nil) rest) σ = some (⟨σ.loc,fl⟩,.ret (ab false)):=B_ret (S_true h)
theorem B_lab {t:CE} {rest:CB} {j:Nat} (h:evT T Γ t σ = some (true,fl)):evB T Γ N (.cons (.ite t (.cons (.raise j) .nil) .nil) rest) σ = some (⟨σ.loc,fl⟩,.exc j):=B_exc (S_true h)
theorem T_veq {i:Nat} {z m:Int} (h:σ.loc[i]? = some (vI z)):evT T Γ (.cmp .eq (.var i) (.int m)) σ = some (z == m,σ.fl):=T_cmp (E_var h) E_int rfl
theorem T_yes {i:Nat} {m:Int} (h:σ.loc[i]? = some (vI m)):evT T Γ (.cmp .eq (.var i) (.int m)) σ = some (true,σ.fl):=T_val (T_veq h) (beq_self_eq_true m)
theorem T_no {i:Nat} {z m:Int} (h:σ.loc[i]? = some (vI z)) (hz:z ≠ m):evT T Γ (.cmp .eq (.var i) (.int m)) σ = some (false,σ.fl):=T_val (T_veq h) (beq_eq_false_iff_ne.mpr hz)
end
section
variable {t:AS→Option (Bool × FL)} {b:Step} {N:Nat} {σ σ':AS} {fl:FL}
theorem while_of {o:Option (AS × Out)} (ht:t σ = some (true,fl)) (hb:b ⟨σ.loc,fl⟩ = o):whileN t b (N+1) σ = loopK o (whileN t b N):=
  (congrArg (otb · (fun fl=>loopK (b ⟨σ.loc,fl⟩) (whileN t b N)) fun fl=>some ((⟨σ.loc,fl⟩:AS),Out.next)) ht).trans (congrArg (loopK · (whileN t b N)) hb)
theorem while_next (ht:t σ = some (true,fl)) (hb:b ⟨σ.loc,fl⟩ = some (σ',.next)):whileN t b (N+1) σ = whileN t b N σ':=while_of ht hb
theorem while_cont (ht:t σ = some (true,fl)) (hb:b ⟨σ.loc,fl⟩ = some (σ',.cont)):whileN t b (N+1) σ = whileN t b N σ':=while_of ht hb
theorem while_brk (ht:t σ = some (true,fl)) (hb:b ⟨σ.loc,fl⟩ = some (σ',.brk)):whileN t b (N+1) σ = some (σ',.next):=while_of ht hb
theorem while_ret {v:AV} (ht:t σ = some (true,fl)) (hb:b ⟨σ.loc,fl⟩ = some (σ',.ret v)):whileN t b (N+1) σ = some (σ',.ret v):=while_of ht hb
theorem while_exc {k:Nat} (ht:t σ = some (true,fl)) (hb:b ⟨σ.loc,fl⟩ = some (σ',.exc k)):whileN t b (N+1) σ = some (σ',.exc k):=while_of ht hb
theorem while_end (ht:t σ = some (false,fl)):whileN t b (N+1) σ = some (⟨σ.loc,fl⟩,.next):=
  congrArg (otb · (fun fl=>loopK (b ⟨σ.loc,fl⟩) (whileN t b N)) fun fl=>some ((⟨σ.loc,fl⟩:AS),Out.next)) ht
theorem for_of {i:Nat} {a:Atom} {r:List Atom} {o:Option (AS × Out)} (ho:okSet i σ = true) (hb:b ⟨σ.loc.set i (some (.at a)),σ.fl⟩ = o):forN i b (a :: r) σ = loopK o (forN i b r):=
  (congrArg (iff · (loopK (b ⟨σ.loc.set i (some (.at a)),σ.fl⟩) (forN i b r))) ho).trans (congrArg (loopK · (forN i b r)) hb)
theorem for_next {i:Nat} {a:Atom} {r:List Atom} (ho:okSet i σ = true) (hb:b ⟨σ.loc.set i (some (.at a)),σ.fl⟩ = some (σ',.next)):forN i b (a :: r) σ = forN i b r σ':=for_of ho hb
theorem for_brk {i:Nat} {a:Atom} {r:List Atom} (ho:okSet i σ = true) (hb:b ⟨σ.loc.set i (some (.at a)),σ.fl⟩ = some (σ',.brk)):forN i b (a :: r) σ = some (σ',.next):=for_of ho hb
end
theorem ret_of {o o':Option (AS × Out)} {r:Option (AV × FL)} (h:o = o') (h2:retOf o' = r):retOf o = r:=h▸h2
theorem map_at {α β:Type} {f g:α→β} {l:List α} (h:l.map f = l.map g) {a:α} (m:a ∈ l):f a = g a:=List.map_inj_left.mp h a m
theorem sub_ai {a b c:Int} (h:a - b = c):binV .sub (ai a) (ai b) = some (ai c):=congrArg (fun z=>some (ai z)) h
theorem sm {α:Type} {l:List α} (h:l.length < 1000):small l.length = true:=decide_eq_true (Nat.le_trans (Nat.le_of_lt h) (by decide))
end Mine
namespace Mine
theorem cut_min {α:Type} (l:List α) (a b:Nat):(l.drop (min a l.length)).take (min b l.length - min a l.length) = (l.take b).drop a:=by
  rw [←List.drop_take,kmk_take_min]
  by_cases h:a ≤ l.length
  · rw [Nat.min_eq_left h]
  · have h':=Nat.le_of_not_le h
    have hl:(l.take b).length ≤ l.length:=List.length_take_le' b l
    rw [Nat.min_eq_right h',List.drop_of_length_le hl,List.drop_of_length_le (Nat.le_trans hl h')]
theorem lo_is {lo:Option Int} {n:Nat} (h:0 ≤ lo.getD 0):kms_lo lo n = min (lo.getD 0).toNat n:=match lo,h with
  | none,_=>(Nat.zero_min n).symm
  | some _,h=>if_neg (Int.not_lt.mpr h)
theorem cut_is {α:Type} (l:List α) (lo:Option Int) (hi:Option Int) (h0:0 ≤ lo.getD 0) (h1:0 ≤ hi.getD 0):(l.drop (kms_lo lo l.length)).take (kms_hi hi l.length - kms_lo lo l.length) = cut l lo hi:=by
  rw [lo_is h0]
  cases hi with
  | none=>
    have:=cut_min l (lo.getD 0).toNat l.length
    rw [List.take_length,Nat.min_self] at this
    exact this
  | some j=>
    have e:kms_hi (some j) l.length = min j.toNat l.length:=if_neg (Int.not_lt.mpr h1)
    rw [e];exact cut_min ..
theorem txt_pick (x:Str) (lo:Option Int) (hi:Option Int) (h0:0 ≤ lo.getD 0) (h1:0 ≤ hi.getD 0) :
    (Builtin.Str.strSliceIndices lo hi 1 x.length).filterMap (x.cps[·]?) = cut x.cps.toList lo hi∧(Builtin.Str.strSliceIndices lo hi 1 x.length).length = kms_hi hi x.length - kms_lo lo x.length:=by
  have e:Builtin.Str.strSliceIndices lo hi 1 x.length = (List.range (kms_hi hi x.length - kms_lo lo x.length)).map (kms_lo lo x.length+·):=by
    rw [←sliceRange_one]
    show sliceRange (sliceBounds lo hi none x.length).1 (sliceBounds lo hi none x.length).2.1 1 = _
    rw [kms_bounds]
  rw [e,pick_run,List.length_map,List.length_range]
  exact ⟨cut_is x.cps.toList lo hi h0 h1,rfl⟩
theorem txt_slice (x:Str) (lo:Option Int) (hi:Option Int) (h0:0 ≤ lo.getD 0) (h1:0 ≤ hi.getD 0):Txt.slice x lo hi = ⟨(cut x.cps.toList lo hi).toArray⟩:=by
  obtain ⟨e,hl⟩:=txt_pick x lo hi h0 h1
  unfold Txt.slice
  rw [e,beq_self_eq_true,Bool.true_and]
  split
  · rename_i h
    rw [hl,beq_iff_eq] at h
    have h2:kms_hi hi x.length ≤ x.length:=by
      unfold kms_hi
      split
      · exact Nat.le_refl _
      · split
        · exact Nat.sub_le ..
        · exact Nat.min_le_right ..
    have h3:kms_lo lo x.length ≤ x.length:=by rw [lo_is h0];exact Nat.min_le_right ..
    have hz:kms_lo lo x.length = 0:=by omega
    rw [hz] at h
    have:=cut_is x.cps.toList lo hi h0 h1
    rw [show x.cps.toList.length = x.length from rfl,hz,List.drop_zero,h,show x.length = x.cps.toList.length from rfl,List.take_length] at this
    rw [←this]
  · rfl
theorem list_pick (items:Array Value) (lo:Option Int) (hi:Option Int) (h0:0 ≤ lo.getD 0) (h1:0 ≤ hi.getD 0):slicePick items lo hi none = (cut items.toList lo hi).toArray:=
  (kms_pick_eq items lo hi).trans (congrArg List.toArray (cut_is items.toList lo hi h0 h1))
end Mine
namespace Mine
theorem small_le {n:Nat} (h:small n = true):n ≤ sizeLine:=by
  have:=of_decide_eq_true h
  rw [sizeLine_eq];omega
theorem small_100 {n:Nat} (h:small n = true):n ≤ 100000:=of_decide_eq_true h
section
variable {w:World} {B:Heap} {S:Sit} {g:Option Addr} {σ:AS} {s:Shared} {E:Value→Shared→Prop} {Q:Value→Shared→Prop} {fl:FL} {v:AV}
theorem fresh_g (V:Inv w B S g σ s) {a:Addr} (h:s.heap.get? a = none):g ≠ some a:=fun e=>by
  obtain ⟨_,_,_,_,_,vs,o,n,ho,_⟩:=V.gown a e
  rw [h] at ho;cases ho
theorem fresh_apart (V:Inv w B S g σ s) {a:Addr} (h:s.heap.get? a = none):Apart S.fr S.inst a:=by
  refine ⟨fun m=>?_,fun x e=>?_⟩
  · obtain ⟨_,o,ho,_⟩:=V.frs.mem m
    rw [h] at ho;cases ho
  · obtain ⟨o,_,_,ho,_⟩:=(V.inst x a e).dcl
    rw [h] at ho;cases ho
theorem get_size (h:Heap):h.get? h.objs.size = none:=Heap.get?_none_of_le (Nat.le_refl _)
theorem strsOf_strs {I:Option (Addr × Addr)} {l:List Atom} {vs:List Value} (r:Reps I l vs):∀ {xs:List Str},strsOf l = some xs→StrsAre vs xs:=by
  induction r with
  | nil=>intro xs e;cases e;exact .nil
  | @cons a v l vs ra _ ih=>
    intro xs e
    cases a with
    | str x=>
      obtain ⟨ys,hy,rfl⟩:=Option.map_eq_some_iff.mp e
      obtain ⟨t,rfl⟩:=ra
      exact .cons x t (ih hy)
    | _=>cases e
theorem str_beq (x y:Str):(x.cps.toList == y.cps.toList) = (x == y):=by
  by_cases h:x = y
  · subst h;simp
  · rw [beq_eq_false_iff_ne.mpr h]
    refine beq_eq_false_iff_ne.mpr fun e=>h ?_
    cases x;cases y
    simp only [Str.mk.injEq]
    exact Array.toList_inj.mp e
structure Sets (w:World) (B:Heap):Prop where
  has:∀ a l,setAt a = some l→∃ o n,B.get? a = some o∧o.SetObjOf (strKind pw w) (fun x=>l.contains x) n∧n < 4096
theorem strsAre_get {vs:List Value} {xs:List Str} (h:StrsAre vs xs):∀ (j:Nat) (h1:j < vs.length),∃ (h2:j < xs.length) (t:Tok),vs[j] = .str xs[j] t:=by
  induction h with
  | nil=>intro j h1;simp at h1
  | cons y t _ ih=>
    intro j h1
    cases j with
    | zero=>exact ⟨by simp,t,rfl⟩
    | succ j=>
      obtain ⟨h2,u,e⟩:=ih j (by simpa using h1)
      exact ⟨by simpa using h2,u,by simpa using e⟩
theorem strsAre_len {vs:List Value} {xs:List Str} (h:StrsAre vs xs):vs.length = xs.length:=by
  induction h with
  | nil=>rfl
  | cons _ _ _ ih=>simp [ih]
noncomputable def copOf:Cop→CmpOp
  | .lt=>.Lt | .le=>.LtE | .gt=>.Gt | .ge=>.GtE | .eq=>.Eq | .ne=>.NotEq | .isin=>.In | .notin=>.NotIn
theorem tail_any {value slice:Expr} {o i:Value} {T id:String} (hT:s.TypeIs o T) (hl:typeLookup (.type T) "__getitem__" = pure (some (.builtin id)))
    (h:wpAny (model pw w) S.A (getItem o i) Q E s):wpAny (model pw w) S.A (subscriptTail value slice o i) Q E s:=by
  unfold subscriptTail
  refine wpAny_bind ?_
  rw [getitemInPython_of_ne hT.not_modules]
  refine wpAny_bind (wpAny_specialOf hT hl ?_)
  have fin:wpAny (model pw w) S.A (subscripted slice false o i) (fun r s₃=>wpAny (model pw w) S.A (letTemporaryGo value o r >>= fun _=>pure r) Q E s₃) E s:=by
    have k:wpAny (model pw w) S.A (getItem o i) (fun r s₃=>wpAny (model pw w) S.A (letTemporaryGo value o r >>= fun _=>pure r) Q E s₃) E s:=
      wpAny_mono h (fun r s₃ h₃=>wpAny_bind (wpAny_letTemporaryGo (wpAny_pure h₃))) fun _ _ x=>x
    cases slice with
    | Slice _ _ st _=>cases st<;>exact wpAny_operating k
    | _=>exact wpAny_operating k
  first
    | exact wpAny_pure (wpAny_bind fin)
    | exact wpAny_bind (wpAny_pure (wpAny_bind fin))
    | exact wpAny_bind fin
structure Fixed (w:World) (B:Heap):Prop where
  low:(Hfin w.params).StaysIn B
  glob:∃ mg,B.Ns mainGlobals mg
  bu:∃ mb,B.Ns builtinsNs mb∧∀ x:Str,x ≠ "__name__"→mb x = bootBuiltins x
  lim:B.NoLimit
  sets:Sets w B
  amo:∀ a l,amoList a = some l→B.IsList a (l.map Value.ref).toArray
end
end Mine
namespace Mine
structure Cx where
  names:List Str
  kinds:List (Str × NameKind)
structure Ctx (c:Cx) (S:Sit):Prop where
  names:S.names = c.names
  kinds:S.env.scope.names = c.kinds
inductive RepsV (w:World) (fr:List Env) (I:Option (Addr × Addr)) (g:Option Addr) (h:Heap):List AV→List Value→Prop
  | nil:RepsV w fr I g h [] []
  | cons {v val l vals}:Rep w fr I g h v val→RepsV w fr I g h l vals→RepsV w fr I g h (v :: l) (val :: vals)
theorem RepsV.kp {w:World} {B h h':Heap} {fr:List Env} {I:Option (Addr × Addr)} {fl:FL} {g:Option Addr} {l:List AV} {vals:List Value} (H:HInv B fr I fl h) (r:RepsV w fr I g h l vals) (k:Kp fr (dl I) h h'):RepsV w fr I g h' l vals:=by
  induction r with
  | nil=>exact .nil
  | cons a _ ih=>exact .cons (a.kp H k) ih
theorem RepsV.cons_el {w:World} {h:Heap} {fr:List Env} {I:Option (Addr × Addr)} {g:Option Addr} {v:AV} {l:List AV} {vals:List Value} {P:List Value→Prop} (r:RepsV w fr I g h (v :: l) vals) (q:∀ val vs,Rep w fr I g h v val→RepsV w fr I g h l vs→P (val :: vs)):P vals:=by
  cases r with
  | cons a b=>exact q _ _ a b
theorem RepsV.nil_el {w:World} {h:Heap} {fr:List Env} {I:Option (Addr × Addr)} {g:Option Addr} {vals:List Value} {P:List Value→Prop} (r:RepsV w fr I g h [] vals) (q:P []):P vals:=by
  cases r;exact q
theorem RepsV.one {w:World} {h:Heap} {fr:List Env} {I:Option (Addr × Addr)} {g:Option Addr} {v:AV} {vals:List Value} {P:List Value→Prop} (r:RepsV w fr I g h [v] vals) (q:∀ val,Rep w fr I g h v val→P [val]):P vals:=
  r.cons_el fun a _ ra r=>r.nil_el (P:=fun l=>P (a :: l)) (q a ra)
theorem RepsV.two {w:World} {h:Heap} {fr:List Env} {I:Option (Addr × Addr)} {g:Option Addr} {v u:AV} {vals:List Value} {P:List Value→Prop} (r:RepsV w fr I g h [v,u] vals) (q:∀ a b,Rep w fr I g h v a→Rep w fr I g h u b→P [a,b]):P vals:=
  r.cons_el fun a _ ra r=>r.one (P:=fun l=>P (a :: l)) fun b rb=>q a b ra rb
noncomputable def fnAddr:List Addr:=[35,42,49,63,70,98,105,126,133,140,147,154,161,189,194,239,246,253,260,267,274,281,288,295,302,468,475,483,488,493,500,507,514,521,528,533]
noncomputable def CallOk (w:World) (B:Heap) (n:Nat) (Γ:Call):Prop:=
  ∀ (f:Nat) (vs:List AV) (fl:FL) (v:AV) (fl':FL),Γ f vs fl = some (v,fl')→∀ (S:Sit) (s:Shared) (vals:List Value) (Q:Value→Shared→Prop) (E:Value→Shared→Prop),Good n B S→HInv B S.fr S.inst fl s.heap→s.gens = #[]→s.os = S.os→
    vs.all AV.isSt = true→RepsV w S.fr S.inst none s.heap vs vals→
    (∀ val s',HInv B S.fr S.inst fl' s'.heap→Kp S.fr (dl S.inst) s.heap s'.heap→s'.gens = #[]→s'.os = S.os→Rep w S.fr S.inst none s'.heap v val→Q val s')→
    wpAny (model pw w) S.A (call (.ref (fnAddr.getD f 0)) vals) Q E s
noncomputable def labName:Nat→Str
  | 0=>.ofString "lab0"
  | 1=>.ofString "lab1"
  | 2=>.ofString "lab2"
  | _=>.ofString "lab3"
noncomputable def baseX:List Value:=[.type "Exception",.type "BaseException",.type "object"]
noncomputable def Labs (B:Heap):Prop:=∃ mg,B.Ns mainGlobals mg∧∀ k,mg (labName k) = some (.ref (labA k)) ∧
  ∃ N nm qn bs hdct sn sub ab col dd k0 k1 k2 k3 k5 mN,B.get? (labA k) = some (excClassObj nm qn (labA k) N bs baseX hdct sn sub ab col dd k0 k1 k2 k3 k5 "Exception.__new__")∧B.Ns N mN∧mN "__init__" = none
structure Gl where
  w:World
  B:Heap
  n:Nat
  Γ:Call
  fixed:Fixed w B
  calls:CallOk w B n Γ
  labs:Labs B
structure At (G:Gl) (c:Cx) where
  S:Sit
  g:Option Addr
  σ:AS
  s:Shared
  E:Value→Shared→Prop
  ctx:Ctx c S
  good:Good G.n G.B S
  inv:Inv G.w G.B S g σ s
variable {G:Gl} {c:Cx}
noncomputable abbrev RepAt (x:At G c) (s:Shared) (v:AV) (val:Value):Prop:=Rep G.w x.S.fr x.S.inst x.g s.heap v val
noncomputable abbrev At.rep (x:At G c) (v:AV) (val:Value):Prop:=Rep G.w x.S.fr x.S.inst x.g x.s.heap v val
structure Res (x:At G c) (fl:FL) (v:AV) where
  val:Value
  s:Shared
  inv:Inv G.w G.B x.S x.g ⟨x.σ.loc,fl⟩ s
  kp:Kp x.S.fr (dl x.S.inst) x.s.heap s.heap
  rep:Rep G.w x.S.fr x.S.inst x.g s.heap v val
structure ResL (x:At G c) (fl:FL) (vs:List AV) where
  vals:List Value
  s:Shared
  inv:Inv G.w G.B x.S x.g ⟨x.σ.loc,fl⟩ s
  kp:Kp x.S.fr (dl x.S.inst) x.s.heap s.heap
  rep:RepsV G.w x.S.fr x.S.inst x.g s.heap vs vals
noncomputable abbrev Den:=AS→Option (AV × FL)
noncomputable def At.to (x:At G c) {fl:FL} {s:Shared} (V:Inv G.w G.B x.S x.g ⟨x.σ.loc,fl⟩ s):At G c:=⟨x.S,x.g,⟨x.σ.loc,fl⟩,s,x.E,x.ctx,x.good,V⟩
noncomputable abbrev Res.at {x:At G c} {fl:FL} {v:AV} (r:Res x fl v):At G c:=x.to r.inv
noncomputable abbrev ResL.at {x:At G c} {fl:FL} {vs:List AV} (r:ResL x fl vs):At G c:=x.to r.inv
noncomputable def Res.back {x:At G c} {fl fl':FL} {v:AV} {s:Shared} (V:Inv G.w G.B x.S x.g ⟨x.σ.loc,fl⟩ s) (k:Kp x.S.fr (dl x.S.inst) x.s.heap s.heap) (r:Res (x.to V) fl' v):Res x fl' v:=⟨r.val,r.s,r.inv,k.trans r.kp,r.rep⟩
noncomputable abbrev Wp (x:At G c) {α:Type} (m:Sem α) (Q:α→Shared→Prop):Prop:=wpAny (model pw G.w) x.S.A m Q x.E x.s
noncomputable def SE (G:Gl) (c:Cx) (ex:Expr) (d:Den):Prop:=∀ (x:At G c) fl v (Q:Value→Shared→Prop),d x.σ = some (v,fl)→(∀ r:Res x fl v,Q r.val r.s)→Wp x (eval ex x.S.env) Q
noncomputable def TE (G:Gl) (c:Cx) (ex:Expr) (d:Den):Prop:=∀ (x:At G c) fl b (Q:Bool→Shared→Prop),d x.σ = some (ab b,fl)→(∀ r:Res x fl (ab b),Q b r.s)→Wp x (isTrue ex x.S.env (eval ex x.S.env)) Q
structure OE (G:Gl) (c:Cx) (ex:Expr) (d:Den):Prop where
  se:SE G c ex d
  te:TE G c ex d
noncomputable abbrev DenL:=AS→Option (List AV × FL)
noncomputable def SA (G:Gl) (c:Cx) (xs:List Expr) (d:DenL):Prop:=∀ (x:At G c) fl vs (pos:Pos) (Q:List Value→Shared→Prop),d x.σ = some (vs,fl)→(∀ r:ResL x fl vs,Q r.vals r.s)→Wp x (spliced (backTo pos (starEach xs x.S.env))) Q
noncomputable def Res.keep {x:At G c} {v:AV} {val:Value} {s':Shared} (k:∀ b o,x.s.heap.get? b = some o→s'.heap.get? b = some o) (r:Rep G.w x.S.fr x.S.inst x.g s'.heap v val)
    (hg:s'.gens = x.s.gens:=by rfl) (ho:s'.os = x.s.os:=by rfl):Res x x.σ.fl v:=⟨val,s',x.inv.keep k hg ho,.of_keep k,r⟩
noncomputable def Res.tk {x:At G c} {v:AV} {val:Value} (t:Nat) (r:Rep G.w x.S.fr x.S.inst x.g x.s.heap v val):Res x x.σ.fl v:=⟨val,{ x.s with toks:=t },x.inv.keep fun _ _ e=>e,.of_keep fun _ _ e=>e,r⟩
noncomputable def Res.now {x:At G c} {v:AV} {val:Value} (r:Rep G.w x.S.fr x.S.inst x.g x.s.heap v val):Res x x.σ.fl v:=⟨val,x.s,x.inv,.refl ..,r⟩
noncomputable def isCtor (l:List Nat) (e:Expr):Bool:=l.any (Nat.beq e.ctorIdx ·)
noncomputable def plainT (e:Expr):Bool:=!isCtor [0,3,5,15] e
theorem isTrue_plain {ex:Expr} {env:Env} {whole:Sem Value} (h:plainT ex = true):isTrue ex env whole = (do let v ←whole;standAt ex.pos;holding [v] (truthy v)):=by
  cases ex<;>first | rfl | cases h
theorem OE.plain {ex:Expr} {d:Den} (hp:plainT ex = true) (h:SE G c ex d):OE G c ex d:=
  ⟨h,fun x fl _ Q e q=>wpAny_isTrue_value (h x fl _ _ e fun ⟨_,s,V,k,r⟩=>by cases r;exact wpAny_truthy_bool (q ⟨_,s,V,k,rfl⟩)) (isTrue_plain hp)⟩
theorem OE.bad {ex:Expr} {d:Den} (h:∀ σ,d σ = none):OE G c ex d:=
  ⟨fun x _ _ _ e _=>(by rw [h] at e;cases e),fun x _ _ _ e _=>(by rw [h] at e;cases e)⟩
section
variable {β:Type} {P:Prop} {r:β}
theorem ob_el {o:Option (AV × FL)} {k:AV→FL→Option β} (h:ob o k = some r) (q:∀ v fl,o = some (v,fl)→k v fl = some r→P):P:=
  by cases o with
  | some p=>exact q p.1 p.2 rfl h
  | none=>cases h
section
variable {x:AV} {B:Option β}
@[elab_as_elim] theorem onI_el {A:Int→Option β} {P:AV→Prop} (h:onI x A B = some r) (q1:∀ i,A i = some r→P (ai i)) (q2:B = some r→P x):P x:=by
  cases x with
  | «at» a=>cases a with
    | int i=>exact q1 i h
    | _=>exact q2 h
  | _=>exact q2 h
@[elab_as_elim] theorem onS_el {A:Str→Option β} {P:AV→Prop} (h:onS x A B = some r) (q1:∀ i,A i = some r→P (as i)) (q2:B = some r→P x):P x:=by
  cases x with
  | «at» a=>cases a with
    | str i=>exact q1 i h
    | _=>exact q2 h
  | _=>exact q2 h
@[elab_as_elim] theorem onR_el {A:Addr→Option β} {P:AV→Prop} (h:onR x A B = some r) (q1:∀ i,A i = some r→P (.at (.cst (.ref i)))) (q2:B = some r→P x):P x:=by
  cases x with
  | «at» a=>cases a with
    | cst z=>cases z with
      | ref i=>exact q1 i h
      | _=>exact q2 h
    | _=>exact q2 h
  | _=>exact q2 h
@[elab_as_elim] theorem onL_el {A:List Atom→Option β} {P:AV→Prop} (h:onL x A B = some r) (q1:∀ i,A i = some r→P (.list i)) (q2:B = some r→P x):P x:=by
  cases x with
  | list l=>exact q1 l h
  | _=>exact q2 h
@[elab_as_elim] theorem onO_el {A:List Atom→Option β} {P:AV→Prop} (h:onO x A B = some r) (q1:∀ i,A i = some r→P (.own i)) (q2:B = some r→P x):P x:=by
  cases x with
  | own l=>exact q1 l h
  | _=>exact q2 h
@[elab_as_elim] theorem onD_el {A:List (Str × Str)→Option β} {P:AV→Prop} (h:onD x A B = some r) (q1:∀ i,A i = some r→P (.dict i)) (q2:B = some r→P x):P x:=by
  cases x with
  | dict l=>exact q1 l h
  | _=>exact q2 h
@[elab_as_elim] theorem onG_el {A:Int→Int→Int→Option β} {P:AV→Prop} (h:onG x A B = some r) (q1:∀ i j k,A i j k = some r→P (.rng i j k)) (q2:B = some r→P x):P x:=by
  cases x with
  | rng i j k=>exact q1 i j k h
  | _=>exact q2 h
@[elab_as_elim] theorem onA_el {A:Atom→Option β} {P:AV→Prop} (h:onA x A B = some r) (q1:∀ i,A i = some r→P (.at i)) (q2:B = some r→P x):P x:=by
  cases x with
  | «at» l=>exact q1 l h
  | _=>exact q2 h
end
theorem iff_el {b:Bool} {A:Option β} (h:iff b A = some r) (q:b = true→A = some r→P):P:=by
  cases b with
  | true=>exact q rfl h
  | false=>cases h
theorem none_el (h:(none:Option β) = some r):P:=nomatch h
theorem bind_el {α:Type} {o:Option α} {k:α→Option β} (h:o.bind k = some r) (q:∀ v,o = some v→k v = some r→P):P:=
  by cases o with
  | some v=>exact q v rfl h
  | none=>cases h
theorem obI_el {o:Option (AV × FL)} {k:Int→FL→Option β} (h:obI o k = some r) (q:∀ v fl,o = some (ai v,fl)→k v fl = some r→P):P:=
  ob_el h fun _ fl e h=>onI_el h (fun i h e=>q i fl e h) (fun h _=>none_el h) e
theorem obS_el {o:Option (AV × FL)} {k:Str→FL→Option β} (h:obS o k = some r) (q:∀ v fl,o = some (as v,fl)→k v fl = some r→P):P:=
  ob_el h fun _ fl e h=>onS_el h (fun i h e=>q i fl e h) (fun h _=>none_el h) e
theorem obR_el {o:Option (AV × FL)} {k:Addr→FL→Option β} (h:obR o k = some r) (q:∀ v fl,o = some (.at (.cst (.ref v)),fl)→k v fl = some r→P):P:=
  ob_el h fun _ fl e h=>onR_el h (fun i h e=>q i fl e h) (fun h _=>none_el h) e
theorem obA_el {o:Option (AV × FL)} {k:Atom→FL→Option β} (h:obA o k = some r) (q:∀ v fl,o = some (.at v,fl)→k v fl = some r→P):P:=
  ob_el h fun _ fl e h=>onA_el h (fun i h e=>q i fl e h) (fun h _=>none_el h) e
theorem obL_el {o:Option (List AV × FL)} {k:List AV→FL→Option β} (h:obL o k = some r) (q:∀ v fl,o = some (v,fl)→k v fl = some r→P):P:=
  by cases o with
  | some p=>exact q p.1 p.2 rfl h
  | none=>cases h
theorem map_el {α:Type} {o:Option α} {k:α→β} (h:o.map k = some r) (q:∀ v,o = some v→k v = r→P):P:=
  by cases o with
  | some v=>exact q v rfl (Option.some.inj h)
  | none=>cases h
@[elab_as_elim] theorem mapv {o:Option β} {fl fl':FL} {P:FL→Prop} (h:o.map (fun u=>(u,fl)) = some (r,fl')) (q:o = some r→P fl):P fl':=
  map_el h fun _ hu e=>by cases e;exact q hu
@[elab_as_elim] theorem mapf {α:Type} {o:Option α} {f:α→β} {fl fl':FL} {P:β→FL→Prop} (h:o.map (fun u=>(f u,fl)) = some (r,fl')) (q:∀ u,o = some u→P (f u) fl):P r fl':=
  map_el h fun u hu e=>by cases e;exact q u hu
@[elab_as_elim] theorem somev {fl fl':FL} {a:β} {P:β→FL→Prop} (h:some (a,fl) = some (r,fl')) (q:P a fl):P r fl':=by cases h;exact q
end
end Mine
namespace Mine
noncomputable def posOf (x:Str):List Str→Option Nat
  | []=>none
  | y :: r=>if y = x then some 0 else (posOf x r).map (·+1)
theorem posOf_get {x:Str} {l:List Str}:∀ {i:Nat},posOf x l = some i→l[i]? = some x:=by
  induction l with
  | nil=>intro _ h;cases h
  | cons y r ih=>
    intro i h
    unfold posOf at h
    split at h
    · rename_i e;cases h;rw [e];rfl
    · obtain ⟨j,hj,rfl⟩:=Option.map_eq_some_iff.mp h
      exact ih hj
noncomputable def sName (s:String):Str:=.ofString s
noncomputable def fnIdx:List Str:=[.ofString "__init__",.ofString "set_current",.ofString "get_current",.ofString "in_grouping",.ofString "go_in_grouping",.ofString "go_out_grouping",.ofString "out_grouping_b",.ofString "eq_s_b",.ofString "find_among",.ofString "find_among_b",.ofString "replace_s",.ofString "slice_from",.ofString "slice_del",.ofString "stemWord",.ofString "stemWords",.ofString "r_prelude",.ofString "r_mark_regions",.ofString "r_postlude",.ofString "r_R1",.ofString "r_R2",.ofString "r_undouble",.ofString "r_e_ending",.ofString "r_en_ending",.ofString "r_standard_suffix",.ofString "_stem",.ofString "_law_pieces",.ofString "_law_bare",.ofString "_law_word",.ofString "_law_marked",.ofString "_law_regions",.ofString "_law_ending",.ofString "_law_shut",.ofString "_law_single",.ofString "_law_less_en",.ofString "_law_less_e",.ofString "_law_stem"]
noncomputable def bad:CE:=.or .nil
noncomputable def isGl (c:Cx) (x:Str):Bool:=c.kinds.lookup x == some .globalImplicit && !(x == sName "__debug__")
noncomputable def notCall (e:Expr):Bool:=!Nat.beq e.ctorIdx 16
noncomputable def notStar (e:Expr):Bool:=!Nat.beq e.ctorIdx 22
noncomputable def notSet (e:Expr):Bool:=!Nat.beq e.ctorIdx 7
end Mine
namespace Mine
noncomputable abbrev OK (G:Gl) (c:Cx) (ex:Expr) (e:CE):Prop:=OE G c ex (evE tabs G.Γ e)
variable {G:Gl} {c:Cx} {ex:Expr}
theorem ok_bad:OK G c ex bad:=.bad fun _=>rfl
theorem ok_ite {p:Prop} [Decidable p] {a b:CE} (ha:p→OK G c ex a) (hb:¬p→OK G c ex b):OK G c ex (if p then a else b):=
  if h:p then (if_pos (t:=a) (e:=b) h).symm▸ha h else (if_neg (t:=a) (e:=b) h).symm▸hb h
theorem locGet_is {σ:AS} {i:Nat} {v:AV} (h:locGet σ i = some v):σ.loc[i]? = some (some v):=by
  unfold locGet at h
  split at h
  · rename_i e;cases h;exact e
  · cases h
theorem dbg {x:Str} (h:x ≠ sName "__debug__"):(x == ("__debug__":Str)) = false:=beq_eq_false_iff_ne.mpr h
theorem At.read (y:At G c) {i:Nat} {x:Str} {v:AV} {P:Prop} (hx:c.names[i]? = some x) (h:locGet y.σ i = some v) (q:∀ val,ReadsVar y.S.env y.s.heap x val→Rep G.w y.S.fr y.S.inst y.g y.s.heap v val→P):P:=by
  obtain ⟨z,val,h1,h2,h3⟩:=y.inv.vars i v (locGet_is h)
  rw [y.ctx.names,hx] at h1
  cases h1
  exact q val h2 h3
theorem var_at (y:At G c) {x:Str} {p:Pos} {i:Nat} {v:AV} {Q:Value→Shared→Prop} (hx:c.names[i]? = some x) (hd:x ≠ sName "__debug__") (hu:locGet y.σ i = some v) (q:∀ val,y.rep v val→Q val y.s):Wp y (eval (.Name x p) y.S.env) Q:=by
  refine y.read hx hu fun _ h2 h3=>wpAny_Name ?_ (dbg hd)
  rcases h2 with ⟨hk,_,hn,hm⟩ | ⟨hk,_,ha,_,ho,hd⟩
  · exact wpAny_loadName_local y.good.kind hk hn hm (q _ h3)
  · exact wpAny_loadName_cell y.good.kind hk ha ⟨_,ho,hd⟩ (q _ h3)
theorem ok_var {x:Str} {p:Pos} {i:Nat} (hx:c.names[i]? = some x) (hd:x ≠ sName "__debug__"):OK G c (.Name x p) (.var i):=
  .plain rfl fun y _ _ _ he=>mapv he fun hu q=>var_at y hx hd hu fun _ h3=>q (.now h3)
theorem ok_int {m:Int} {k:Nat} {p:Pos}:OK G c (.Constant (.int m) k p) (.int m):=
  .plain rfl fun _ _ _ _ he=>somev he fun q=>wpAny_Constant_int (q (.tk _ ⟨_,rfl⟩))
theorem ok_str {m:Str} {k:Nat} {p:Pos}:OK G c (.Constant (.str m) k p) (.str m):=
  .plain rfl fun _ _ _ _ he=>somev he fun q=>Calls.Constant_str (q (.tk _ ⟨_,rfl⟩))
theorem ok_bool {m:Bool} {k:Nat} {p:Pos}:OK G c (.Constant (.bool m) k p) (.bool m):=
  .plain rfl fun _ _ _ _ he=>somev he fun q=>wpAny_Constant_bool (q (.now rfl))
structure Res2 (x:At G c) (fl:FL) (u t:AV) where
  a:Value
  b:Value
  s:Shared
  inv:Inv G.w G.B x.S x.g ⟨x.σ.loc,fl⟩ s
  kp:Kp x.S.fr (dl x.S.inst) x.s.heap s.heap
  ra:Rep G.w x.S.fr x.S.inst x.g s.heap u a
  rb:Rep G.w x.S.fr x.S.inst x.g s.heap t b
noncomputable abbrev Res2.at {x:At G c} {fl:FL} {u t:AV} (r:Res2 x fl u t):At G c:=x.to r.inv
theorem pair_ok {a b:Expr} {d1 d2:Den} (h1:SE G c a d1) (h2:SE G c b d2) (y:At G c) {β:Type} {k:AV→AV→Option β} {g:β→AV} {v:AV} {fl:FL} {Q:Value→Shared→Prop} {R:Value→Value→Shared→Prop}
    (he:(ob (d1 y.σ) fun u f=>ob (d2 ⟨y.σ.loc,f⟩) fun t f'=>(k u t).map fun r=>(g r,f')) = some (v,fl)) (q:∀ r:Res y fl v,Q r.val r.s)
    (m:∀ u t r f (z:Res2 y f u t),k u t = some r→(∀ r':Res z.at f (g r),Q r'.val r'.s)→R z.a z.b z.s) :
    Wp y (eval a y.S.env) fun va s₁=>wpAny (model pw G.w) y.S.A (eval b y.S.env) (R va) y.E s₁:=
  ob_el he fun u f e1 he=>ob_el he fun t f' e2 he=>map_el he fun r hr e=>by
    cases e
    exact h1 y f u _ e1 fun r1=>h2 r1.at fl t _ e2 fun r2=>m u t r fl ⟨r1.val,r2.val,r2.s,r2.inv,r1.kp.trans r2.kp,r1.rep.kp r1.inv.toHInv r2.kp,r2.rep⟩ hr fun r'=>q (.back r2.inv (r1.kp.trans r2.kp) r')
theorem Str.app_empty {x y:Str} (h:(y.length == 0) = true):x ++ y = x:=by
  have h1:y.cps.size = 0:=eq_of_beq h
  cases x;cases y
  show Str.mk _ = _
  rw [Array.eq_empty_of_size_eq_zero h1,Array.append_empty]
theorem Str.empty_app {x y:Str} (h:(x.length == 0) = true):x ++ y = y:=by
  have h1:x.cps.size = 0:=eq_of_beq h
  cases x;cases y
  show Str.mk _ = _
  rw [Array.eq_empty_of_size_eq_zero h1,Array.empty_append]
noncomputable def opOf:Bop→Operator
  | .add=>.Add | .sub=>.Sub | .mod=>.Mod | .shr=>.RShift
theorem binI_at (y:At G c) {o:Bop} {i j z:Int} {a b:Value} {Q:Value→Shared→Prop} (e:binI o i j = some z) (ra:y.rep (ai i) a) (rb:y.rep (ai j) b) (q:∀ r:Res y y.σ.fl (ai z),Q r.val r.s):Wp y (binaryOp (opOf o) a b) Q:=by
  obtain ⟨t,rfl⟩:=ra
  obtain ⟨t',rfl⟩:=rb
  cases o with
  | add=>cases e;exact P.add_int (q (.tk _ ⟨_,rfl⟩))
  | sub=>cases e;exact P.sub_int (q (.tk _ ⟨_,rfl⟩))
  | mod=>exact iff_el e fun h e=>by cases e;exact mod_int' (Int.ne_of_gt (of_decide_eq_true h)) (q (.tk _ ⟨_,rfl⟩))
  | shr=>exact iff_el e fun h e=>by cases e;cases of_decide_eq_true h;exact rshift_int (by decide) (q (.tk _ ⟨_,rfl⟩))
theorem addS_at (y:At G c) {s z:Str} {v:AV} {a b:Value} {Q:Value→Shared→Prop} (e:addS s z = some v) (ra:y.rep (as s) a) (rb:y.rep (as z) b) (q:∀ r:Res y y.σ.fl v,Q r.val r.s):Wp y (binaryOp .Add a b) Q:=by
  obtain ⟨t,rfl⟩:=ra
  obtain ⟨t',rfl⟩:=rb
  refine iff_el e fun h e=>?_
  cases e
  refine P.add_str ?_
  split
  · rename_i h0
    rw [Str.empty_app h0] at q;exact q (.now ⟨_,rfl⟩)
  · split
    · rename_i h0
      rw [Str.app_empty h0] at q;exact q (.now ⟨_,rfl⟩)
    · exact ⟨Nat.le_trans (Nat.le_of_eq Array.size_append) (small_le h),q (.tk _ ⟨_,rfl⟩)⟩
theorem addL_at (y:At G c) {s z:List Atom} {v:AV} {a b:Value} {Q:Value→Shared→Prop} (e:addL s z = some v) (ra:y.rep (.list s) a) (rb:y.rep (.list z) b) (q:∀ r:Res y y.σ.fl v,Q r.val r.s):Wp y (binaryOp .Add a b) Q:=by
  refine iff_el e fun h e=>?_
  cases e
  obtain ⟨a,vs,rfl,ha,hl,r1⟩:=ra
  obtain ⟨b,ws,rfl,hb,hl2,r2⟩:=rb
  obtain ⟨⟨cls,dd,data,sl⟩,ho,rfl,n,rfl⟩:=id hl
  obtain ⟨⟨cls2,dd2,data2,sl2⟩,ho2,rfl,n2,rfl⟩:=id hl2
  refine concat_meets ⟨_,ho,rfl⟩ ⟨_,ho2,rfl⟩ noFill_list_add seq_list_add PySem.F.slot_list_add PySem.F.entry_list_add (PySem.F.args_list_add_2 _ _)
    (list_addW a b vs ws n n2 dd dd2 sl sl2 (by rw [←Array.length_toList,←Array.length_toList,r1.len,r2.len];exact small_le h)) ⟨ho,ho2,?_⟩
  exact q (.keep (s':={ y.s with heap:=y.s.heap.push _ }) (fun _ _ e=>Heap.get?_push_of_some _ e) ⟨_,_,rfl,fresh_g y.inv (get_size _),⟨_,Heap.get?_push_size _ rfl,rfl,_,rfl⟩,by rw [Array.toList_append];exact r1.append r2⟩)
theorem bin_at (y:At G c) {o:Bop} {u t v:AV} {a b:Value} {Q:Value→Shared→Prop} (e:binV o u t = some v) (ra:y.rep u a) (rb:y.rep t b) (q:∀ r:Res y y.σ.fl v,Q r.val r.s):Wp y (binaryOp (opOf o) a b) Q:=
  onI_el e (fun i e ra=>onI_el e (fun j e rb=>map_el e fun z hz e=>by subst e;exact binI_at y hz ra rb q) (fun e _=>none_el e) rb)
    (fun e ra=>iff_el e fun ho e=>by
      cases o<;>first | (cases ho;done) | skip
      exact onS_el e (fun s e ra=>onS_el e (fun z e rb=>addS_at y e ra rb q) (fun e _=>none_el e) rb)
        (fun e ra=>onL_el e (fun s e ra=>onL_el e (fun z e rb=>addL_at y e ra rb q) (fun e _=>none_el e) rb) (fun e _=>none_el e) ra) ra) ra
theorem ok_bop {l r:Expr} {p:Pos} {o:Bop} {e1 e2:CE} (h1:OK G c l e1) (h2:OK G c r e2):OK G c (.BinOp l (opOf o) r p) (.bin o e1 e2):=
  .plain rfl fun y _ _ _ he q=>wpAny_BinOp (pair_ok h1.se h2.se y (g:=fun v=>v) he q fun _ _ _ _ z hz q'=>bin_at z.at hz z.ra z.rb q')
@[elab_as_elim] theorem pair_ab {b b':Bool} {f f':FL} {P:Bool→FL→Prop} (h:(ab b,f) = (ab b',f')) (q:P b' f'):P b f:=by
  cases b<;>cases b'<;>cases h<;>exact q
theorem truth_is {v:AV} {b:Bool} (h:truth v = some b):v = ab b:=by
  unfold truth at h
  split at h
  · cases h;rfl
  · cases h
theorem truth_el {β:Type} {o:Option (AV × FL)} {k:Bool→FL→β} {r:β} {P:Prop} (h:(ob o fun x fl=>(truth x).map fun b=>k b fl) = some r) (q:∀ b fl,o = some (ab b,fl)→k b fl = r→P):P:=
  ob_el h fun _ fl e h=>map_el h fun b hb e2=>q b fl (truth_is hb▸e) e2
theorem tb_el {β:Type} {o:Option (AV × FL)} {k k':FL→Option β} {r:β} {P:Prop} (h:(ob o fun x fl=>tb (truth x) (k fl) (k' fl)) = some r) (q:∀ fl,o = some (ab true,fl)→k fl = some r→P) (q':∀ fl,o = some (ab false,fl)→k' fl = some r→P):P:=
  ob_el h fun v fl e h=>by
    cases ht:truth v with
    | none=>rw [ht] at h;cases h
    | some b=>cases b with
      | true=>rw [ht] at h;exact q fl (truth_is ht▸e) h
      | false=>rw [ht] at h;exact q' fl (truth_is ht▸e) h
theorem Res.bool {y:At G c} {fl:FL} {b:Bool} (r:Res y fl (ab b)):r.val = .bool b:=r.rep
noncomputable def Res.b {y:At G c} {fl:FL} {v:AV} (r:Res y fl v) (b:Bool):Res y fl (ab b):=⟨.bool b,r.s,r.inv,r.kp,rfl⟩
theorem ok_not {x:Expr} {p:Pos} {e:CE} (h:OK G c x e):OK G c (.UnaryOp .Not x p) (.not e):=
  ⟨fun y _ _ _ he=>truth_el he fun b f e1 e2=>somev (congrArg some e2) fun q=>
    wpAny_UnaryOp (h.se y f (ab b) _ e1 fun r=>r.bool▸not_value (wpAny_truthy_bool (q (r.b _)))),
   fun y _ _ _ he=>truth_el he fun b f e1 e2=>pair_ab e2.symm fun q=>wpAny_isTrue_Not (h.te y f b _ e1 fun r=>q (r.b _))⟩
theorem SE.at {ex:Expr} {d:Den} (h:SE G c ex d) {y:At G c} {f fl:FL} {v:AV} {Q:Value→Shared→Prop} {s:Shared} (V:Inv G.w G.B y.S y.g ⟨y.σ.loc,f⟩ s) (k:Kp y.S.fr (dl y.S.inst) y.s.heap s.heap) (e:d ⟨y.σ.loc,f⟩ = some (v,fl)) (q:∀ r:Res y fl v,Q r.val r.s) :
    wpAny (model pw G.w) y.S.A (eval ex y.S.env) Q y.E s:=h (y.to V) fl v Q e fun r=>q (.back V k r)
theorem TE.at {ex:Expr} {d:Den} (h:TE G c ex d) {y:At G c} {f fl:FL} {b:Bool} {Q:Bool→Shared→Prop} {s:Shared} (V:Inv G.w G.B y.S y.g ⟨y.σ.loc,f⟩ s) (k:Kp y.S.fr (dl y.S.inst) y.s.heap s.heap) (e:d ⟨y.σ.loc,f⟩ = some (ab b,fl)) (q:∀ r:Res y fl (ab b),Q b r.s) :
    wpAny (model pw G.w) y.S.A (isTrue ex y.S.env (eval ex y.S.env)) Q y.E s:=h (y.to V) fl b Q e fun r=>q (.back V k r)
theorem ok_ifexp {t a b:Expr} {p:Pos} {e e1 e2:CE} (h:OK G c t e) (h1:OK G c a e1) (h2:OK G c b e2):OK G c (.IfExp t a b p) (.ite e e1 e2):=
  ⟨fun y _ _ _ he q=>tb_el he
    (fun f e1 e2=>wpAny_IfExp (h.te y f true _ e1 fun r=>h1.se.at r.inv r.kp e2 q))
    (fun f e1 e2=>wpAny_IfExp (h.te y f false _ e1 fun r=>h2.se.at r.inv r.kp e2 q)),
   fun y _ _ _ he q=>(arm_isTrue_IfExp ..).symm▸tb_el he
    (fun f e1 e2=>wpAny_bind (h.te y f true _ e1 fun r=>h1.te.at r.inv r.kp e2 q))
    (fun f e1 e2=>wpAny_bind (h.te y f false _ e1 fun r=>h2.te.at r.inv r.kp e2 q))⟩
theorem in_at (y:At G c) {x:Str} {t:Tok} {u:AV} {b:Value} {r:Bool} {Q:Value→Shared→Prop} (e:inV x u = some r) (rb:y.rep u b) (q:∀ r':Res y y.σ.fl (ab r),Q r'.val r'.s):Wp y (compareOp .In (.str x t) b) Q:=
  onL_el e (fun l e rb=>map_el e fun xs hx e=>by
      subst e
      obtain ⟨a,vs,rfl,ha,hl,r1⟩:=rb
      exact in_list_strs (vs:=vs.toList) hl (strsOf_strs r1 hx) (q (.now rfl)))
    (fun e rb=>onD_el e (fun l e rb=>by
      cases e
      obtain ⟨a,rfl,hg,hap,hsm,f,hm,hf⟩:=rb
      obtain ⟨u,hu⟩:=hf x
      refine wpAny_in_of (knd:=strKind pw G.w) (strKind_is pw G.w x t) hsm hm ?_
      rw [hu,Option.isSome_map];exact q (.tk _ rfl))
    (fun e rb=>onR_el e (fun a e rb=>map_el e fun l hl e=>by
      subst e
      cases rb
      obtain ⟨o,n,ho,hso,hn⟩:=G.fixed.sets.has a l hl
      exact wpAny_inSet_of (isStrOf_self x t) rfl (hso.setOf (y.inv.stays a o ho) hn) (q (.tk _ rfl)))
    (fun e _=>none_el e) rb) rb) rb
theorem notin_at (y:At G c) {x:Str} {t:Tok} {u:AV} {b:Value} {r:Bool} {Q:Value→Shared→Prop} (e:inV x u = some r) (rb:y.rep u b) (q:∀ r':Res y y.σ.fl (ab (!r)),Q r'.val r'.s):Wp y (compareOp .NotIn (.str x t) b) Q:=
  onL_el e (fun l e rb=>map_el e fun xs hx e=>by
      subst e
      obtain ⟨a,vs,rfl,ha,hl,r1⟩:=rb
      exact notin_list_strs (vs:=vs.toList) hl (strsOf_strs r1 hx) (q (.now rfl)))
    (fun e rb=>onD_el e (fun l e rb=>by
      cases e
      obtain ⟨a,rfl,hg,hap,hsm,f,hm,hf⟩:=rb
      obtain ⟨u,hu⟩:=hf x
      refine wpAny_notIn_of (knd:=strKind pw G.w) (strKind_is pw G.w x t) hsm hm ?_
      rw [hu,Option.isSome_map];exact q (.tk _ rfl))
    (fun e rb=>onR_el e (fun a e rb=>map_el e fun l hl e=>by
      subst e
      cases rb
      obtain ⟨o,n,ho,hso,hn⟩:=G.fixed.sets.has a l hl
      exact wpAny_notInSet_of (isStrOf_self x t) rfl (hso.setOf (y.inv.stays a o ho) hn) (q (.tk _ rfl)))
    (fun e _=>none_el e) rb) rb) rb
theorem cmpI_at (y:At G c) {o:Cop} {i j:Int} {r:Bool} {a b:Value} {Q:Value→Shared→Prop} (e:cmpI o i j = some r) (ra:y.rep (ai i) a) (rb:y.rep (ai j) b) (q:∀ r':Res y y.σ.fl (ab r),Q r'.val r'.s):Wp y (compareOp (copOf o) a b) Q:=by
  obtain ⟨t,rfl⟩:=ra
  obtain ⟨t',rfl⟩:=rb
  cases o<;>cases e
  · exact P.lt_int (q (.now rfl))
  · exact P.le_int (q (.now rfl))
  · exact P.gt_int (q (.now rfl))
  · exact P.ge_int (q (.now rfl))
  · exact P.eq_int (q (.now rfl))
  · exact P.ne_int (q (.now rfl))
theorem cmpS_at (y:At G c) {o:Cop} {s:Str} {u:AV} {r:Bool} {a b:Value} {Q:Value→Shared→Prop} (e:cmpS o s u = some r) (ra:y.rep (as s) a) (rb:y.rep u b) (q:∀ r':Res y y.σ.fl (ab r),Q r'.val r'.s):Wp y (compareOp (copOf o) a b) Q:=by
  obtain ⟨t,rfl⟩:=ra
  cases o with
  | eq=>exact onS_el e (fun z e rb=>by cases e;obtain ⟨t',rfl⟩:=rb;exact P.eq_str ((str_beq s z).symm▸q (.now rfl))) (fun e _=>none_el e) rb
  | ne=>exact onS_el e (fun z e rb=>by cases e;obtain ⟨t',rfl⟩:=rb;exact P.ne_str (by show Q (.bool (!(_ == _))) y.s;rw [str_beq];exact q (.now rfl))) (fun e _=>none_el e) rb
  | isin=>exact in_at y e rb q
  | notin=>exact map_el e fun r hr e=>by subst e;exact notin_at y hr rb q
  | _=>cases e
theorem cmpL_at (y:At G c) {o:Cop} {l k:List Atom} {r:Bool} {a b:Value} {Q:Value→Shared→Prop} (e:cmpL o l k = some r) (ra:y.rep (.list l) a) (rb:y.rep (.list k) b) (q:∀ r':Res y y.σ.fl (ab r),Q r'.val r'.s):Wp y (compareOp (copOf o) a b) Q:=by
  cases o<;>first | (cases e;done) | skip
  refine bind_el e fun xs hx e=>bind_el e fun ys hy e=>iff_el e fun h e=>?_
  cases e
  cases of_decide_eq_true h
  obtain ⟨a,vs,rfl,ha,hl,r1⟩:=ra
  obtain ⟨b,ws,rfl,hb,hl2,r2⟩:=rb
  have A1:=strsOf_strs r1 hx
  have A2:=strsOf_strs r2 hy
  have l1:=strsAre_len A1
  have l2:=strsAre_len A2
  rw [Array.length_toList] at l1 l2
  refine SeqAt.eq_listAt (e:=fun _=>true) hl hl2 (l1.trans l2.symm) (by have:=y.good.units;omega) (fun j h1 h2=>?_) ?_
  · obtain ⟨z,t,e1⟩:=strsAre_get A1 j h1
    obtain ⟨z,u,e2⟩:=strsAre_get A2 j h2
    rw [Array.getElem_toList] at e1 e2
    rw [e1,e2]
    have:=eqGives_str xs[j] xs[j] t u
    rw [beq_self_eq_true] at this
    exact this.at _ _
  · rw [List.all_eq_true.mpr fun _ _=>rfl]
    exact q (.now rfl)
theorem cmp_at (y:At G c) {o:Cop} {u t:AV} {a b:Value} {r:Bool} {Q:Value→Shared→Prop} (e:cmpV o u t = some r) (ra:y.rep u a) (rb:y.rep t b) (q:∀ r':Res y y.σ.fl (ab r),Q r'.val r'.s):Wp y (compareOp (copOf o) a b) Q:=
  onI_el e (fun i e ra=>onI_el e (fun j e rb=>cmpI_at y e ra rb q) (fun e _=>none_el e) rb)
    (fun e ra=>onS_el e (fun s e ra=>cmpS_at y e ra rb q) (fun e ra=>onL_el e (fun l e ra=>onL_el e (fun k e rb=>cmpL_at y e ra rb q) (fun e _=>none_el e) rb) (fun e _=>none_el e) ra) ra) ra
theorem ok_cop {l r:Expr} {p:Pos} {o:Cop} {e1 e2:CE} (hb:behindInMarks (copOf o) r = false) (h1:OK G c l e1) (h2:OK G c r e2):OK G c (.Compare l [copOf o] [r] p) (.cmp o e1 e2):=
  ⟨fun y _ _ _ he q=>wpAny_Compare1 (pair_ok h1.se h2.se y (g:=ab) he q fun _ _ _ _ z hz q'=>cmp_at z.at hz z.ra z.rb q') hb,
   fun y _ _ Q he q=>wpAny_isTrue_Compare1 (pair_ok h1.se h2.se y (g:=ab) (Q:=fun v s=>wpAny (model pw G.w) y.S.A (truthy v) Q y.E s) he (fun r=>r.bool.symm▸wpAny_truthy_bool (q r)) fun _ _ _ _ z hz q'=>cmp_at z.at hz z.ra z.rb q') hb⟩
end Mine
namespace Mine
variable {G:Gl} {c:Cx}
theorem starEach_plain {x:Expr} {ys:List Expr} {env:Env} (h:notStar x = true):starEach (x :: ys) env = (false,eval x env) :: starEach ys env:=by
  cases x<;>first | rfl | cases h
@[elab_as_elim] theorem somel {β:Type} {fl fl':FL} {a r:β} {P:β→FL→Prop} (h:some (a,fl) = some (r,fl')) (q:P a fl):P r fl':=by cases h;exact q
noncomputable def ResL.back {x:At G c} {fl fl':FL} {v:List AV} {s:Shared} (V:Inv G.w G.B x.S x.g ⟨x.σ.loc,fl⟩ s) (k:Kp x.S.fr (dl x.S.inst) x.s.heap s.heap) (r:ResL (x.to V) fl' v):ResL x fl' v:=⟨r.vals,r.s,r.inv,k.trans r.kp,r.rep⟩
theorem sa_nil:SA G c [] (evA tabs G.Γ .nil):=fun y _ _ _ _ he=>somev he fun q=>wpAny_items_nil (q ⟨[],y.s,y.inv,.refl ..,.nil⟩)
theorem sa_cons {x:Expr} {xs:List Expr} {e:CE} {l:CA} (h1:OK G c x e) (h2:SA G c xs (evA tabs G.Γ l)) (i:notStar x = true):SA G c (x :: xs) (evA tabs G.Γ (.cons e l)):=
  fun y _ _ pos _ he=>ob_el he fun v f e1 he=>obL_el he fun vs f' e2 he=>somev he fun q=>
    wpAny_items_cons (h1.se y f v _ e1 fun r=>h2 r.at f' vs pos _ e2 fun r'=>q ⟨r.val :: r'.vals,r'.s,r'.inv,r.kp.trans r'.kp,.cons (r.rep.kp r.inv.toHInv r'.kp) r'.rep⟩) (starEach_plain i)
structure LB (o:BoolOp) (G:Gl) (c:Cx) (xs:List Expr) (d:Den):Prop where
  t:∀ (y:At G c) fl b (Q:Bool→Shared→Prop),d y.σ = some (ab b,fl)→(∀ r:Res y fl (ab b),Q b r.s)→Wp y (allTrue o xs y.S.env) Q
  v:∀ (y:At G c) fl v pos (Q:Value→Shared→Prop),d y.σ = some (v,fl)→(∀ r:Res y fl v,Q r.val r.s)→Wp y (boolOp pos o (evalEach xs y.S.env)) Q
theorem and_one {x:Expr} {e:CE} (h:OK G c x e):LB .And G c [x] (evAnd tabs G.Γ (.cons e .nil)):=
  ⟨fun y _ _ Q he=>truth_el he fun b f e1 e2=>pair_ab e2.symm fun q=>wpAny_allTrue_And_cons (h.te y f b _ e1 fun r=>match b,r,q with
    | true,r,q=>wpAny_allTrue_And_nil (q r)
    | false,r,q=>q r),
   fun y _ _ _ _ he=>truth_el he fun b f e1 e2=>somev (congrArg some e2) fun q=>h.se y f (ab b) _ e1 q⟩
theorem or_one {x:Expr} {e:CE} (h:OK G c x e):LB .Or G c [x] (evOr tabs G.Γ (.cons e .nil)):=
  ⟨fun y _ _ Q he=>truth_el he fun b f e1 e2=>pair_ab e2.symm fun q=>wpAny_allTrue_Or_cons (h.te y f b _ e1 fun r=>match b,r,q with
    | true,r,q=>q r
    | false,r,q=>wpAny_allTrue_Or_nil (q r)),
   fun y _ _ _ _ he=>truth_el he fun b f e1 e2=>somev (congrArg some e2) fun q=>h.se y f (ab b) _ e1 q⟩
theorem LB.at {o:BoolOp} {xs:List Expr} {d:Den} (h:LB o G c xs d) {y:At G c} {f fl:FL} {v:AV} {pos:Pos} {Q:Value→Shared→Prop} {s:Shared} (V:Inv G.w G.B y.S y.g ⟨y.σ.loc,f⟩ s) (k:Kp y.S.fr (dl y.S.inst) y.s.heap s.heap) (e:d ⟨y.σ.loc,f⟩ = some (v,fl)) (q:∀ r:Res y fl v,Q r.val r.s) :
    wpAny (model pw G.w) y.S.A (boolOp pos o (evalEach xs y.S.env)) Q y.E s:=h.v (y.to V) fl v pos Q e fun r=>q (.back V k r)
theorem LB.tat {o:BoolOp} {xs:List Expr} {d:Den} (h:LB o G c xs d) {y:At G c} {f fl:FL} {b:Bool} {Q:Bool→Shared→Prop} {s:Shared} (V:Inv G.w G.B y.S y.g ⟨y.σ.loc,f⟩ s) (k:Kp y.S.fr (dl y.S.inst) y.s.heap s.heap) (e:d ⟨y.σ.loc,f⟩ = some (ab b,fl)) (q:∀ r:Res y fl (ab b),Q b r.s) :
    wpAny (model pw G.w) y.S.A (allTrue o xs y.S.env) Q y.E s:=h.t (y.to V) fl b Q e fun r=>q (.back V k r)
theorem and_cons {x x':Expr} {xs:List Expr} {e e':CE} {l:CA} (h:OK G c x e) (h2:LB .And G c (x' :: xs) (evAnd tabs G.Γ (.cons e' l))):LB .And G c (x :: x' :: xs) (evAnd tabs G.Γ (.cons e (.cons e' l))):=
  ⟨fun y _ _ Q he q=>tb_el he
    (fun f e1 e2=>wpAny_allTrue_And_cons (h.te y f true _ e1 fun r=>h2.tat r.inv r.kp e2 q))
    (fun f e1 e2=>pair_ab (Option.some.inj e2).symm (fun q=>wpAny_allTrue_And_cons (h.te y f false _ e1 fun r=>q r)) q),
   fun y _ _ pos _ he q=>tb_el he
    (fun f e1 e2=>wpAny_bind (h.se y f (ab true) _ e1 fun r=>r.bool.symm▸wpAny_bind (wpAny_standAt (wpAny_bind (wpAny_holding (wpAny_truthy_bool (h2.at r.inv r.kp e2 q)))))))
    (fun f e1 e2=>somev e2 (fun q=>wpAny_bind (h.se y f (ab false) _ e1 fun r=>r.bool.symm▸wpAny_bind (wpAny_standAt (wpAny_bind (wpAny_holding (wpAny_truthy_bool (wpAny_pure (q (r.b false))))))))) q)⟩
theorem or_cons {x x':Expr} {xs:List Expr} {e e':CE} {l:CA} (h:OK G c x e) (h2:LB .Or G c (x' :: xs) (evOr tabs G.Γ (.cons e' l))):LB .Or G c (x :: x' :: xs) (evOr tabs G.Γ (.cons e (.cons e' l))):=
  ⟨fun y _ _ Q he q=>tb_el he
    (fun f e1 e2=>pair_ab (Option.some.inj e2).symm (fun q=>wpAny_allTrue_Or_cons (h.te y f true _ e1 fun r=>q r)) q)
    (fun f e1 e2=>wpAny_allTrue_Or_cons (h.te y f false _ e1 fun r=>h2.tat r.inv r.kp e2 q)),
   fun y _ _ pos _ he q=>tb_el he
    (fun f e1 e2=>somev e2 (fun q=>wpAny_bind (h.se y f (ab true) _ e1 fun r=>r.bool.symm▸wpAny_bind (wpAny_standAt (wpAny_bind (wpAny_holding (wpAny_truthy_bool (wpAny_pure (q (r.b true))))))))) q)
    (fun f e1 e2=>wpAny_bind (h.se y f (ab false) _ e1 fun r=>r.bool.symm▸wpAny_bind (wpAny_standAt (wpAny_bind (wpAny_holding (wpAny_truthy_bool (h2.at r.inv r.kp e2 q)))))))⟩
theorem ok_and {xs:List Expr} {p:Pos} {l:CA} (h:LB .And G c xs (evAnd tabs G.Γ l)):OK G c (.BoolOp .And xs p) (.and l):=
  ⟨fun y fl v Q he q=>(arm_eval_BoolOp ..).symm▸h.v y fl v p Q he q,fun y fl b Q he q=>wpAny_isTrue_BoolOp (h.t y fl b Q he q)⟩
theorem ok_or {xs:List Expr} {p:Pos} {l:CA} (h:LB .Or G c xs (evOr tabs G.Γ l)):OK G c (.BoolOp .Or xs p) (.or l):=
  ⟨fun y fl v Q he q=>(arm_eval_BoolOp ..).symm▸h.v y fl v p Q he q,fun y fl b Q he q=>wpAny_isTrue_BoolOp (h.t y fl b Q he q)⟩
theorem amo_at (y:At G c) {a:Addr} {l:List Addr} (h:amoList a = some l):y.s.heap.IsList a (l.map Value.ref).toArray:=let ⟨o,ho,r⟩:=G.fixed.amo a l h;⟨o,y.inv.stays a o ho,r⟩
theorem tab_all {β:Type} {p:β→Bool} {a:Nat} {r:β} {l:List (Nat × β)} (h:tabGet a l = some r) (hp:l.all (fun x=>p x.2) = true):p r = true:=by
  induction l with
  | nil=>cases h
  | cons x l ih=>
    rw [List.all_cons,Bool.and_eq_true] at hp
    unfold tabGet at h
    split at h
    · cases h;exact hp.1
    · exact ih h hp.2
theorem amo_len {a:Addr} {l:List Addr} (h:amoList a = some l):l.length ≤ 11:=of_decide_eq_true (tab_all (p:=fun l=>decide (l.length ≤ 11)) h (by decide))
theorem getAt_at (y:At G c) {l:List Atom} {i:Int} {v:AV} {a:Addr} {vs:Array Value} {u:Tok} {value slice:Expr} {Q:Value→Shared→Prop} (h0:0 ≤ i) (e:getAt i.toNat l = some v) (hl:y.s.heap.IsList a vs) (r1:Reps y.S.inst l vs.toList) (q:∀ r':Res y y.σ.fl v,Q r'.val r'.s):Wp y (subscriptTail value slice (.ref a) (.int i u)) Q:=
  iff_el e fun hs e=>map_el e fun b hb e=>by
    subst e
    obtain ⟨z,hz,rz⟩:=r1.get hb
    have hlt:i.toNat < l.length:=(List.getElem?_eq_some_iff.mp hb).1
    have hsm:=small_100 hs
    exact tail_any hl.typeIs slot_list_getitem.lookup (wpAny_getItem_list hl h0 (by omega) (Array.getElem?_toList.symm.trans hz) (q (.now rz)))
theorem idxI_at (y:At G c) {x v:AV} {i:Int} {a:Value} {u:Tok} {value slice:Expr} {Q:Value→Shared→Prop} (h0:0 ≤ i) (e:idxI x i.toNat = some v) (ra:y.rep x a) (q:∀ r':Res y y.σ.fl v,Q r'.val r'.s):Wp y (subscriptTail value slice a (.int i u)) Q:=
  onS_el e (fun s e ra=>iff_el e fun hs e=>map_el e fun ch hc e=>by
    subst e
    obtain ⟨t,rfl⟩:=ra
    have hlt:i.toNat < s.length:=(Array.getElem?_eq_some_iff.mp hc).1
    have hsm:=small_100 hs
    refine tail_any (typeIs_str _ _ _) F.slot_str_getitem.lookup (P.getItem_str (Bool.or_eq_false_iff.mpr ⟨decide_eq_false (by omega),decide_eq_false (by omega)⟩) ?_ (q (.tk _ ⟨_,rfl⟩)))
    rw [seqIndex_of h0 (show i < (s.length:Int) by omega),Option.bind_some,hc])
  (fun e ra=>onL_el e (fun l e ra=>by obtain ⟨a,vs,rfl,ha,hl,r1⟩:=ra;exact getAt_at y h0 e hl r1 q)
  (fun e ra=>onO_el e (fun l e ra=>by obtain ⟨a,vs,rfl,ha,⟨o,n,ho,hcl,_,hd⟩,r1⟩:=ra;exact getAt_at y h0 e ⟨o,ho,hcl,n,hd⟩ r1 q)
  (fun e ra=>onR_el e (fun a e ra=>bind_el e fun l hl e=>map_el e fun b hb e=>by
    subst e
    cases ra
    have hlt:i.toNat < l.length:=(List.getElem?_eq_some_iff.mp hb).1
    have hsm:=amo_len hl
    exact tail_any (amo_at y hl).typeIs slot_list_getitem.lookup (wpAny_getItem_list (amo_at y hl) h0 (by omega) (by rw [List.getElem?_toArray,List.getElem?_map,hb];rfl) (q (.now rfl))))
  (fun e _=>none_el e) ra) ra) ra) ra
theorem idx_at (y:At G c) {u t v:AV} {a b:Value} {value slice:Expr} {Q:Value→Shared→Prop} (e:idxV u t = some v) (ra:y.rep u a) (rb:y.rep t b) (q:∀ r':Res y y.σ.fl v,Q r'.val r'.s):Wp y (subscriptTail value slice a b) Q:=
  onI_el e (fun i e rb=>iff_el e fun h e=>by obtain ⟨t',rfl⟩:=rb;exact idxI_at y (of_decide_eq_true h) e ra q)
    (fun e rb=>onS_el e (fun k e rb=>onD_el e (fun l e ra=>map_el e fun z hz e=>by
      subst e
      obtain ⟨a,rfl,hg,hap,hsm,f,hm,hf⟩:=ra
      obtain ⟨u,rfl⟩:=rb
      obtain ⟨t,ht⟩:=hf k
      rw [hz] at ht
      exact tail_any hm.typeIs slot_dict_getitem.lookup (wpAny_getItem_of (strKind_is pw G.w k u) hm ht (q (.tk _ ⟨_,rfl⟩)))) (fun e _=>none_el e) ra) (fun e _=>none_el e) rb) rb
theorem ok_idx {a b:Expr} {p:Pos} {e1 e2:CE} (h1:OK G c a e1) (h2:OK G c b e2):OK G c (.Subscript a b p) (.idx e1 e2):=
  .plain rfl fun y _ _ _ he q=>Subscript_ (pair_ok h1.se h2.se y (g:=fun v=>v) he q fun _ _ _ _ z hz q'=>idx_at z.at hz z.ra z.rb q')
end Mine
namespace Mine
theorem evalPart_none {M:Model} {A:Around} {E:Value→Shared→Prop} {s:Shared} {env:Env} {Q:Value→Shared→Prop} (h:Q .none s):wpAny M A (evalPart none env) Q E s:=wpAny_pure h
theorem evalPart_some {M:Model} {A:Around} {E:Value→Shared→Prop} {s:Shared} {env:Env} {e:Expr} {Q:Value→Shared→Prop} (h:wpAny M A (eval e env) Q E s):wpAny M A (evalPart (some e) env) Q E s:=h
variable {G:Gl} {c:Cx}
noncomputable def At.cutS (y:At G c) (vl vu:Value):Shared:={ y.s with heap:=y.s.heap.push { cls:=.type "slice",data:=.fields #[vl,vu,.none] } }
theorem cut_ok {n:Nat} {lo hi:Option Int} (h:cutOk n lo hi = true):small n = true∧0 ≤ lo.getD 0∧0 ≤ hi.getD 0:=by
  simp only [cutOk,Bool.and_eq_true,decide_eq_true_eq] at h
  exact ⟨h.1,h.2.1,h.2.2.1⟩
theorem part_is {v:Value} {lo:Option Int} (h:IsPart v lo):∃ l:Option (Int × Tok),l.map (·.1) = lo∧v = partValue l:=by
  cases h with
  | none=>exact ⟨none,rfl,rfl⟩
  | int i t=>exact ⟨some (i,t),rfl,rfl⟩
theorem cutS_at (y:At G c) {s:Str} {v:AV} {a vl vu:Value} {lo hi:Option Int} {value slice:Expr} (e:iff (cutOk s.length lo hi) (some (as ⟨(cut s.cps.toList lo hi).toArray⟩)) = some v) (ra:y.rep (as s) a) (hl:IsPart vl lo) (hu:IsPart vu hi) {Q:Value→Shared→Prop} (q:∀ r:Res y y.σ.fl v,Q r.val r.s) :
    wpAny (model pw G.w) y.S.A (subscriptTail value slice a (.ref y.s.heap.objs.size)) Q y.E (y.cutS vl vu):=by
  refine iff_el e fun hc e=>?_
  cases e
  obtain ⟨t,rfl⟩:=ra
  obtain ⟨h1,h2,h3⟩:=cut_ok hc
  obtain ⟨l,rfl,rfl⟩:=part_is hl
  obtain ⟨u,rfl,rfl⟩:=part_is hu
  rw [←txt_slice s _ _ h2 h3] at q
  refine tail_any (typeIs_str _ _ _) F.slot_str_getitem.lookup (wpAny_getItem_str_slice (l:=l) (u:=u) (st:=none) ⟨_,Heap.get?_push_size _ rfl,rfl,rfl⟩ rfl (post_val_or_str ⟨Nat.le_trans (Txt.slice_le ..) (small_le h1),fun t' k=>?_⟩))
  exact q (.keep (s':={ y.cutS (partValue l) (partValue u) with toks:=k }) (fun _ _ e=>Heap.get?_push_of_some _ e) ⟨t',rfl⟩)
theorem cutL_at (y:At G c) {k:List Atom} {v:AV} {a vl vu:Value} {lo hi:Option Int} {value slice:Expr} (e:iff (cutOk k.length lo hi) (some (AV.list (cut k lo hi))) = some v) (ra:y.rep (.list k) a) (hl:IsPart vl lo) (hu:IsPart vu hi) {Q:Value→Shared→Prop} (q:∀ r:Res y y.σ.fl v,Q r.val r.s) :
    wpAny (model pw G.w) y.S.A (subscriptTail value slice a (.ref y.s.heap.objs.size)) Q y.E (y.cutS vl vu):=by
  refine iff_el e fun hc e=>?_
  cases e
  obtain ⟨b,vs,rfl,hb,hL,r1⟩:=ra
  obtain ⟨h1,h2,h3⟩:=cut_ok hc
  refine tail_any (Heap.IsList.typeIs (s:=y.cutS vl vu) (hL.push _)) list_getitem_lookup
    (wpAny_getItem_list_slice (hL.push _) (Heap.IsSliceOf.new ..) hl hu .none (fun h=>nomatch h) ?_ (by rw [←Array.length_toList,r1.len];exact small_le h1))
  rw [list_pick vs lo hi h2 h3]
  refine q (.keep (s':={ y.cutS vl vu with heap:=(y.cutS vl vu).heap.push _ }) (fun _ _ e=>Heap.get?_push_of_some _ (Heap.get?_push_of_some _ e)) ⟨_,_,rfl,fresh_g y.inv (Heap.get?_none_of_le ?_),⟨_,Heap.get?_push_size _ rfl,rfl,_,rfl⟩,?_⟩)
  · rw [show (y.cutS vl vu).heap.objs.size = _ from Heap.size_push ..];exact Nat.le_succ _
  · cases hi with
    | none=>exact r1.drop _
    | some j=>exact (r1.take _).drop _
theorem slice_at {x v:AV} {a vl vu:Value} {lo hi:Option Int} {value slice:Expr} (y:At G c) (e:sliceV x lo hi = some v) (ra:y.rep x a) (hl:IsPart vl lo) (hu:IsPart vu hi) {Q:Value→Shared→Prop} (q:∀ r:Res y y.σ.fl v,Q r.val r.s) :
    wpAny (model pw G.w) y.S.A (subscriptTail value slice a (.ref y.s.heap.objs.size)) Q y.E (y.cutS vl vu):=
  onS_el e (fun s e ra=>cutS_at y e ra hl hu q) (fun e ra=>onL_el e (fun l e ra=>cutL_at y e ra hl hu q) (fun e _=>none_el e) ra) ra
theorem Res.part {y:At G c} {f:FL} {i:Int} (r:Res y f (ai i)):IsPart r.val (some i):=by
  obtain ⟨t,ht⟩:=r.rep
  rw [ht];exact .int _ _
theorem ok_sliceTo {a b:Expr} {p p':Pos} {e1 e2:CE} (h1:OK G c a e1) (h2:OK G c b e2):OK G c (.Subscript a (.Slice none (some b) none p') p) (.sliceTo e1 e2):=
  .plain rfl fun y _ _ _ he=>ob_el he fun u f e1 he=>obI_el he fun i f' e2 he=>mapv he fun hz q=>
    Subscript_ (h1.se y f u _ e1 fun r=>wpAny_Slice (evalPart_none (evalPart_some (h2.se r.at f' (ai i) _ e2 fun r'=>evalPart_none
      (slice_at r'.at hz (r.rep.kp r.inv.toHInv r'.kp) .none r'.part fun z=>q (.back r'.inv (r.kp.trans r'.kp) z))))))
theorem ok_sliceFrom {a b:Expr} {p p':Pos} {e1 e2:CE} (h1:OK G c a e1) (h2:OK G c b e2):OK G c (.Subscript a (.Slice (some b) none none p') p) (.sliceFrom e1 e2):=
  .plain rfl fun y _ _ _ he=>ob_el he fun u f e1 he=>obI_el he fun i f' e2 he=>mapv he fun hz q=>
    Subscript_ (h1.se y f u _ e1 fun r=>wpAny_Slice (evalPart_some (h2.se r.at f' (ai i) _ e2 fun r'=>evalPart_none (evalPart_none
      (slice_at r'.at hz (r.rep.kp r.inv.toHInv r'.kp) r'.part .none fun z=>q (.back r'.inv (r.kp.trans r'.kp) z))))))
theorem ok_slice {a b d:Expr} {p p':Pos} {e1 e2 e3:CE} (h1:OK G c a e1) (h2:OK G c b e2) (h3:OK G c d e3):OK G c (.Subscript a (.Slice (some b) (some d) none p') p) (.slice e1 e2 e3):=
  .plain rfl fun y _ _ _ he=>ob_el he fun u f e1 he=>obI_el he fun i f' e2 he=>obI_el he fun j f'' e3 he=>mapv he fun hz q=>
    Subscript_ (h1.se y f u _ e1 fun r=>wpAny_Slice (evalPart_some (h2.se r.at f' (ai i) _ e2 fun r'=>evalPart_some (h3.se r'.at f'' (ai j) _ e3 fun r''=>evalPart_none
      (slice_at r''.at hz (r.rep.kp r.inv.toHInv (r'.kp.trans r''.kp)) r'.part r''.part fun z=>q (.back r''.inv (r.kp.trans (r'.kp.trans r''.kp)) z))))))
end Mine
namespace Mine
variable {G:Gl} {c:Cx}
theorem no_star {env:Env} {pos:Pos}:∀ {xs:List Expr},xs.all notStar = true→(backTo pos (starEach xs env)).any (·.1) = false
  | [],_=>rfl
  | x :: ys,h=>by
    rw [List.all_cons,Bool.and_eq_true] at h
    rw [starEach_plain h.1]
    exact no_star (xs:=ys) h.2
noncomputable def Kept (M:Model) (h:Heap) (f:Value):Prop:=∃ k,(k = Keeper.frame ∨ k = Keeper.machine ∨ k = Keeper.boundFrame)∧Looks M h (keeperOf f) k
theorem callW {M:Model} {A:Around} {env:Env} {pos:Pos} {f:Value} {first:List Value} {xs:List Expr} {Q:Value→Shared→Prop} {E:Value→Shared→Prop} {s:Shared} (hi:xs.all notStar = true)
    (h:wpAny M A (spliced (backTo pos (starEach xs env))) (fun vs s₁=>Kept M s₁.heap f∧wpAny M A (call f (first ++ vs)) Q E s₁) E s) :
    wpAny M A (callWith pos f first (backTo pos (starEach xs env)) []) Q E s:=by
  refine callWith_of (P:=fun h=>Kept M h f) (by rw [no_star hi];rfl) (fun _ h=>h) ?_
  cases xs with
  | nil=>
    unfold evalArgs
    show wpAny M A (spliced (backTo pos (starEach [] env)) >>= _) _ _ s
    refine wpAny_bind (wpAny_mono h (fun vs s' h'=>?_) fun _ _ x=>x)
    refine wpAny_holding ?_
    exact wpAny_bind (wpAny_pure (wpAny_bind (wpAny_pure (wpAny_pure h'))))
  | cons x ys=>
    rw [List.all_cons,Bool.and_eq_true] at hi
    rw [starEach_plain hi.1] at h ⊢
    exact Calls.evalArgs_plain h
theorem kept_b (M:Model) (h:Heap) (i:String):Kept M h (.builtin i):=⟨.machine,.inr (.inl rfl),.now⟩
theorem kept_t (M:Model) (h:Heap) (i:String):Kept M h (.type i):=⟨.machine,.inr (.inl rfl),.now⟩
theorem kIn {w:World} {B:Heap} (hf:Fixed w B):(KK w.params).In B:=(kk_in w.params).keeps hf.low
theorem globB_at (y:At G c) {x:Str} {p:Pos} {v:Value} {Q:Value→Shared→Prop} (hx:isGl c x = true)
    (e:nsIn (KK G.w.params) mainGlobals x = some none) (hv:bootBuiltins x = some v) (hn:x ≠ "__name__") (q:Q v y.s):Wp y (eval (.Name x p) y.S.env) Q:=by
  simp only [isGl,Bool.and_eq_true,Bool.not_eq_true',beq_iff_eq] at hx
  obtain ⟨mg,hG⟩:=G.fixed.glob
  obtain ⟨mb,hB,hb⟩:=G.fixed.bu
  refine Calls.Name_function_global y.good.kind (by unfold Env.kindOf;rw [y.ctx.kinds];exact hx.1) (Calls.loadGlobal_builtin (mg:=mg) (mb:=mb) ?_ (mg_none_of (kIn G.fixed) hG e) ?_ ((hb x hn).trans hv) q) hx.2
  · rw [y.good.globals];exact hG.keeps y.inv.stays
  · rw [y.good.builtins];exact hB.keeps y.inv.stays
theorem glob_at (y:At G c) {x:Str} {p:Pos} {v:Value} {Q:Value→Shared→Prop} (hx:isGl c x = true)
    (e:nsIn (KK G.w.params) mainGlobals x = some (some v)) (q:Q v y.s):Wp y (eval (.Name x p) y.S.env) Q:=by
  simp only [isGl,Bool.and_eq_true,Bool.not_eq_true',beq_iff_eq] at hx
  obtain ⟨mg,hG⟩:=G.fixed.glob
  refine Calls.Name_function_global y.good.kind (by unfold Env.kindOf;rw [y.ctx.kinds];exact hx.1) (Calls.loadGlobal_global (mg:=mg) ?_ (mg_of (kIn G.fixed) hG e) q) hx.2
  rw [y.good.globals];exact hG.keeps y.inv.stays
end Mine
namespace Mine
variable {G:Gl} {c:Cx}
theorem builtin_at (y:At G c) {x:Str} {p p':Pos} {xs:List Expr} {d:DenL} {fv:Value} {vs:List AV} {fl:FL} {Q:Value→Shared→Prop} (hl:SA G c xs d) (hs:xs.all notStar = true) (hx:isGl c x = true)
    (e:nsIn (KK G.w.params) mainGlobals x = some none) (hv:bootBuiltins x = some fv) (hn:x ≠ "__name__") (hk:∀ h,Kept (model pw G.w) h fv) (he:d y.σ = some (vs,fl))
    (q:∀ r:ResL y fl vs,wpAny (model pw G.w) y.S.A (call fv r.vals) Q y.E r.s):Wp y (eval (.Call (.Name x p') xs [] p) y.S.env) Q:=
  (arm_eval_Call_Name' ..).symm▸wpAny_bind (globB_at y hx e hv hn (callW (first:=[]) hs (hl y fl vs p _ he fun r=>⟨hk _,q r⟩)))
end Mine
namespace Mine
variable {G:Gl} {c:Cx}
structure Bi (G:Gl) (x:Str) (fv:Value):Prop where
  ns:nsIn (KK G.w.params) mainGlobals x = some none
  bo:bootBuiltins x = some fv
  nn:x ≠ "__name__"
  kp:∀ h,Kept (model pw G.w) h fv
theorem biL:Bi G (sName "len") (.builtin "len"):=⟨by kernel_rfl!,by decide +kernel,by decide,fun _=>kept_b ..⟩
theorem biO:Bi G (sName "ord") (.builtin "ord"):=⟨by kernel_rfl!,by decide +kernel,by decide,fun _=>kept_b ..⟩
theorem biMi:Bi G (sName "min") (.builtin "min"):=⟨by kernel_rfl!,by decide +kernel,by decide,fun _=>kept_b ..⟩
theorem biMa:Bi G (sName "max") (.builtin "max"):=⟨by kernel_rfl!,by decide +kernel,by decide,fun _=>kept_b ..⟩
theorem biR:Bi G (sName "range") (.type "range"):=⟨by kernel_rfl!,by decide +kernel,by decide,fun _=>kept_t ..⟩
theorem all_one {a:Expr} (i:notStar a = true):[a].all notStar = true:=(Bool.and_true _).trans i
theorem all_two {a b:Expr} (i:notStar a = true) (j:notStar b = true):[a,b].all notStar = true:=Bool.and_eq_true_iff.mpr ⟨i,all_one j⟩
theorem builtin1 (y:At G c) {x:Str} {p p':Pos} {a:Expr} {e:CE} {fv:Value} {u:AV} {fl:FL} {Q:Value→Shared→Prop} (b:Bi G x fv) (h:OK G c a e) (i:notStar a = true) (hx:isGl c x = true) (he:evE tabs G.Γ e y.σ = some (u,fl))
    (q:∀ r:Res y fl u,wpAny (model pw G.w) y.S.A (call fv [r.val]) Q y.E r.s):Wp y (eval (.Call (.Name x p') [a] [] p) y.S.env) Q:=
  builtin_at y (sa_cons h sa_nil i) (all_one i) hx b.ns b.bo b.nn b.kp (A1 he) fun r=>r.rep.one (P:=fun l=>wpAny (model pw G.w) y.S.A (call fv l) Q y.E r.s) fun _ a=>q ⟨_,r.s,r.inv,r.kp,a⟩
theorem builtin2 (y:At G c) {x:Str} {p p':Pos} {a a':Expr} {e e':CE} {fv:Value} {u u':AV} {f fl:FL} {Q:Value→Shared→Prop} (b:Bi G x fv) (h:OK G c a e) (i:notStar a = true) (h':OK G c a' e') (i':notStar a' = true) (hx:isGl c x = true)
    (he:evE tabs G.Γ e y.σ = some (u,f)) (he':evE tabs G.Γ e' ⟨y.σ.loc,f⟩ = some (u',fl))
    (q:∀ r:Res2 y fl u u',wpAny (model pw G.w) y.S.A (call fv [r.a,r.b]) Q y.E r.s):Wp y (eval (.Call (.Name x p') [a,a'] [] p) y.S.env) Q:=
  builtin_at y (sa_cons h (sa_cons h' sa_nil i') i) (all_two i i') hx b.ns b.bo b.nn b.kp
    ((congrArg (ob · fun v fl=>obL (evA tabs G.Γ (.cons e' .nil) ⟨y.σ.loc,fl⟩) fun vs fl'=>some (v :: vs,fl')) he).trans (congrArg (obL · fun vs fl'=>some (u :: vs,fl')) (A1 he')))
    fun r=>r.rep.two (P:=fun l=>wpAny (model pw G.w) y.S.A (call fv l) Q y.E r.s) fun _ _ a b=>q ⟨_,_,r.s,r.inv,r.kp,a,b⟩
theorem len_at (y:At G c) {u v:AV} {a:Value} {Q:Value→Shared→Prop} (e:lenV u = some v) (ra:y.rep u a) (q:∀ r:Res y y.σ.fl v,Q r.val r.s):Wp y (call (.builtin "len") [a]) Q:=
  onS_el e (fun s e ra=>iff_el e fun h e=>by
    cases e;obtain ⟨t,rfl⟩:=ra
    have:=small_100 h
    exact P.len_str (by omega) (q (.tk _ ⟨_,rfl⟩)))
  (fun e ra=>onL_el e (fun l e ra=>iff_el e fun h e=>by
    cases e;obtain ⟨b,vs,rfl,_,hl,r1⟩:=ra
    have e:vs.size = l.length:=by rw [←Array.length_toList,r1.len]
    have:=small_100 h
    refine Calls.call_len_list hl (by omega) ?_
    rw [e];exact q (.tk _ ⟨_,rfl⟩))
  (fun e ra=>onR_el e (fun b e ra=>map_el e fun l h2 e=>by
    subst e;cases ra
    have:=amo_len h2
    refine Calls.call_len_list (amo_at y h2) (by rw [List.size_toArray,List.length_map];omega) ?_
    rw [List.size_toArray,List.length_map];exact q (.tk _ ⟨_,rfl⟩)) (fun e _=>none_el e) ra) ra) ra
theorem ok_len {a:Expr} {p p':Pos} {e:CE} (hx:isGl c (sName "len") = true) (h:OK G c a e) (i:notStar a = true):OK G c (.Call (.Name (sName "len") p') [a] [] p) (.len e):=
  .plain rfl fun y _ _ _ he=>ob_el he fun _ _ e1 he=>mapv he fun hz q=>builtin1 y biL h i hx e1 fun r=>len_at r.at hz r.rep fun z=>q (.back r.inv r.kp z)
theorem ordV_el {s:Str} {v:AV} {P:Prop} (h:ordV s = some v) (q:s.length = 1→v = ai (s.cps.getD 0 0:Nat)→P):P:=by
  unfold ordV at h
  split at h
  · rename_i e;exact q e (Option.some.inj h).symm
  · cases h
theorem ord_at (y:At G c) {s:Str} {v:AV} {a:Value} {Q:Value→Shared→Prop} (e:ordV s = some v) (ra:y.rep (as s) a) (q:∀ r:Res y y.σ.fl v,Q r.val r.s):Wp y (call (.builtin "ord") [a]) Q:=by
  obtain ⟨t,rfl⟩:=ra
  refine ordV_el e fun h1 h2=>?_
  subst h2
  exact ord_of_one h1 (q (.tk _ ⟨_,rfl⟩))
theorem ok_ord {a:Expr} {p p':Pos} {e:CE} (hx:isGl c (sName "ord") = true) (h:OK G c a e) (i:notStar a = true):OK G c (.Call (.Name (sName "ord") p') [a] [] p) (.ord e):=
  .plain rfl fun y _ _ _ he=>obS_el he fun _ _ e1 he=>mapv he fun hz q=>builtin1 y biO h i hx e1 fun r=>ord_at r.at hz r.rep fun z=>q (.back r.inv r.kp z)
theorem min_at (y:At G c) {m n:Int} {a b:Value} {Q:Value→Shared→Prop} (ra:y.rep (ai m) a) (rb:y.rep (ai n) b) (q:∀ r:Res y y.σ.fl (ai (if n < m then n else m)),Q r.val r.s):Wp y (call (.builtin "min") [a,b]) Q:=by
  obtain ⟨t,rfl⟩:=ra
  obtain ⟨t',rfl⟩:=rb
  refine min_two_ints y.good.handled fun h' tk kk=>?_
  by_cases hlt:n < m
  · rw [if_pos hlt];rw [if_pos hlt] at q;exact q (.keep (s':={ y.s with heap:=h',toks:=tk }) kk ⟨_,rfl⟩)
  · rw [if_neg hlt];rw [if_neg hlt] at q;exact q (.keep (s':={ y.s with heap:=h',toks:=tk }) kk ⟨_,rfl⟩)
theorem max_at (y:At G c) {m n:Int} {a b:Value} {Q:Value→Shared→Prop} (ra:y.rep (ai m) a) (rb:y.rep (ai n) b) (q:∀ r:Res y y.σ.fl (ai (if n > m then n else m)),Q r.val r.s):Wp y (call (.builtin "max") [a,b]) Q:=by
  obtain ⟨t,rfl⟩:=ra
  obtain ⟨t',rfl⟩:=rb
  refine max_two_ints y.good.handled fun h' tk kk=>?_
  by_cases hlt:n > m
  · rw [if_pos hlt];rw [if_pos hlt] at q;exact q (.keep (s':={ y.s with heap:=h',toks:=tk }) kk ⟨_,rfl⟩)
  · rw [if_neg hlt];rw [if_neg hlt] at q;exact q (.keep (s':={ y.s with heap:=h',toks:=tk }) kk ⟨_,rfl⟩)
theorem ok_min {a b:Expr} {p p':Pos} {e e':CE} (hx:isGl c (sName "min") = true) (h:OK G c a e) (i:notStar a = true) (h':OK G c b e') (i':notStar b = true):OK G c (.Call (.Name (sName "min") p') [a,b] [] p) (.min e e'):=
  .plain rfl fun y _ _ _ he=>obI_el he fun m _ e1 he=>obI_el he fun n _ e2 he=>somev he fun q=>builtin2 y biMi h i h' i' hx e1 e2 fun r=>min_at r.at r.ra r.rb fun z=>q (.back r.inv r.kp z)
theorem ok_max {a b:Expr} {p p':Pos} {e e':CE} (hx:isGl c (sName "max") = true) (h:OK G c a e) (i:notStar a = true) (h':OK G c b e') (i':notStar b = true):OK G c (.Call (.Name (sName "max") p') [a,b] [] p) (.max e e'):=
  .plain rfl fun y _ _ _ he=>obI_el he fun m _ e1 he=>obI_el he fun n _ e2 he=>somev he fun q=>builtin2 y biMa h i h' i' hx e1 e2 fun r=>max_at r.at r.ra r.rb fun z=>q (.back r.inv r.kp z)
theorem ok_neg {m:Int} {k:Nat} {p p':Pos}:OK G c (.UnaryOp .USub (.Constant (.int m) k p) p') (.neg m):=
  ⟨fun y _ _ _ he=>somev he fun q=>wpAny_UnaryOp (wpAny_Constant_int (P.neg_int (q (.tk _ ⟨_,rfl⟩)))),fun _ _ _ _ he=>nomatch he⟩
end Mine
namespace Mine
variable {G:Gl} {c:Cx}
theorem rng_at (y:At G c) {lo hi st:Int} {t u x:Tok} {k:Nat} {Q:Value→Shared→Prop} (q:∀ r:Res y y.σ.fl (.rng lo hi st),Q r.val r.s) :
    Q (.ref y.s.heap.objs.size) { y.s with heap:=y.s.heap.push { cls:=.type "range",data:=.fields #[.int lo t,.int hi u,.int st x] },toks:=k }:=
  q (.keep (s':={ y.s with heap:=y.s.heap.push { cls:=.type "range",data:=.fields #[.int lo t,.int hi u,.int st x] },toks:=k }) (fun _ _ e=>Heap.get?_push_of_some _ e) ⟨_,rfl,fresh_g y.inv (get_size _),fresh_apart y.inv (get_size _),t,u,x,Heap.get?_push_size _ rfl⟩)
theorem range_at (y:At G c) {vs:List AV} {vals:List Value} {v:AV} {Q:Value→Shared→Prop} (e:rangeV vs = some v) (rv:RepsV G.w y.S.fr y.S.inst y.g y.s.heap vs vals) (q:∀ r:Res y y.σ.fl v,Q r.val r.s):Wp y (call (.type "range") vals) Q:=by
  match vs with
  | []=>cases e
  | [a]=>exact rv.one (P:=fun l=>Wp y (call (.type "range") l) Q) fun _ ra=>onI_el e (fun i e ra=>iff_el e fun _ e=>by
      cases e;obtain ⟨t,rfl⟩:=ra;exact call_range_1 (rng_at y q)) (fun e _=>none_el e) ra
  | [a,b]=>exact rv.two (P:=fun l=>Wp y (call (.type "range") l) Q) fun _ _ ra rb=>onI_el e (fun i e ra=>onI_el e (fun j e rb=>iff_el e fun _ e=>by
      cases e;obtain ⟨t,rfl⟩:=ra;obtain ⟨u,rfl⟩:=rb;exact call_range_2 (rng_at y q)) (fun e _=>none_el e) rb) (fun e _=>none_el e) ra
  | [a,b,d]=>exact rv.cons_el (P:=fun l=>Wp y (call (.type "range") l) Q) fun x _ ra r2=>r2.two (P:=fun l=>Wp y (call (.type "range") (x :: l)) Q) fun _ _ rb rd=>onI_el e (fun i e ra=>onI_el e (fun j e rb=>onI_el e (fun k e rd=>iff_el e fun h e=>by
        cases e;obtain ⟨t,rfl⟩:=ra;obtain ⟨u,rfl⟩:=rb;obtain ⟨z,rfl⟩:=rd
        cases of_decide_eq_true (Bool.and_eq_true_iff.mp h).2
        exact call_range_3 (by decide) (rng_at y q) (.inl (PyProof.noPylong_small (by decide)))) (fun e _=>none_el e) rd) (fun e _=>none_el e) rb) (fun e _=>none_el e) ra
  | _ :: _ :: _ :: _ :: _=>cases e
theorem ok_range {xs:List Expr} {p p':Pos} {l:CA} (hx:isGl c (sName "range") = true) (h:SA G c xs (evA tabs G.Γ l)) (i:xs.all notStar = true):OK G c (.Call (.Name (sName "range") p') xs [] p) (.range l):=
  .plain rfl fun y _ _ _ he=>obL_el he fun vs f e1 he=>mapv he fun hz q=>builtin_at y h i hx (biR (G:=G)).ns (biR (G:=G)).bo (biR (G:=G)).nn (biR (G:=G)).kp e1 fun r=>range_at r.at hz r.rep fun z=>q (.back r.inv r.kp z)
theorem endswith_eq (x y:Str):Txt.endswith x y = y.cps.toList.isSuffixOf x.cps.toList:=by
  unfold Txt.endswith
  rw [StrLaws.subAt_eq]
  rw [Bool.eq_iff_iff]
  simp only [Nat.zero_add,Bool.and_eq_true,decide_eq_true_eq,beq_iff_eq,List.isSuffixOf_iff_suffix,Str.length]
  constructor
  · rintro ⟨h1,h2⟩
    rw [←h2]
    have:(x.cps.toList.drop (x.cps.size - y.cps.size)).take y.cps.size = x.cps.toList.drop (x.cps.size - y.cps.size):=List.take_of_length_le (by simp;omega)
    rw [this]
    exact List.drop_suffix _ _
  · intro h
    have h1:=h.length_le
    simp only [Array.length_toList] at h1
    refine ⟨h1,?_⟩
    obtain ⟨t,ht⟩:=h
    have hl:t.length = x.cps.size - y.cps.size:=by
      have:=congrArg List.length ht
      simp at this;omega
    rw [←ht,←hl,List.drop_left,List.take_of_length_le (by simp)]
theorem notCall_base {o:Expr} {attr:Str} {env:Env} {whole:Sem Value} (h:notCall o = true):attributeBase o attr env whole = whole:=by
  cases o<;>first | rfl | cases h
theorem meth_at (y:At G c) {o:Expr} {nm:Str} {ap p:Pos} {xs:List Expr} {d:DenL} {vs:List AV} {fl:FL} {Q:Value→Shared→Prop} {ov fv:Value} {first:List Value}
    (hl:SA G c xs d) (hs:xs.all notStar = true) (hlen:xs.length < 29) (hpos:(ap.endLine == p.line) = true) (he:d y.σ = some (vs,fl))
    (hm:∀ pl R,R (fv,first) y.s→wpAny (model pw G.w) y.S.A (getMethod ov nm pl) R y.E y.s) (hk:∀ h,G.B.StaysIn h→Kept (model pw G.w) h fv)
    (q:∀ r:ResL y fl vs,wpAny (model pw G.w) y.S.A (call fv (first ++ r.vals)) Q y.E r.s) :
    Wp y (methodCall o nm ap p y.S.env ov (xs.length+0) (backTo p (starEach xs y.S.env)) []) Q:=by
  have few:methodCallForm (xs.length+0) (backTo p (starEach xs y.S.env)) ([]:List (Option Str × Sem Value)) = true:=by
    have h1:=no_star (env:=y.S.env) (pos:=p) hs
    have h2:(backTo p (starEach xs y.S.env)).all (fun x=>!x.1) = true:=by
      rw [List.all_eq_not_any_not]
      show (!(backTo p (starEach xs y.S.env)).any (fun x=>!!x.1)) = true
      simp only [Bool.not_not]
      rw [h1];rfl
    show (_ && true && decide (xs.length+0+0 < 30)) = true
    rw [h2,Bool.true_and,Bool.true_and]
    exact decide_eq_true (Nat.lt_succ_of_lt hlen)
  unfold methodCall
  rw [few]
  refine wpAny_bind (wpAny_holding (hm _ _ ?_))
  unfold methodCallPos
  rw [hpos]
  exact wpAny_bind (wpAny_pure (callW (first:=first) hs (hl y fl vs p _ he fun r=>⟨hk _ r.inv.stays,q r⟩)))
theorem ends_at (y:At G c) {u t v:AV} {a b:Value} {Q:Value→Shared→Prop} (e:endsV u t = some v) (ra:y.rep u a) (rb:y.rep t b) (q:∀ r:Res y y.σ.fl v,Q r.val r.s):Wp y (call (.builtin "str.endswith") [a,b]) Q:=
  onS_el e (fun s e ra=>onS_el e (fun z e rb=>iff_el e fun h e=>by
    cases e;obtain ⟨t,rfl⟩:=ra;obtain ⟨t',rfl⟩:=rb
    refine SC.endswith ?_
    rw [endswith_eq];exact q (.now rfl)) (fun e _=>none_el e) rb) (fun e _=>none_el e) ra
theorem ends_str {u t v:AV} (e:endsV u t = some v):∃ s,u = as s:=onS_el e (fun s _=>⟨s,rfl⟩) fun e=>none_el e
theorem ok_endswith {x b:Expr} {ap p:Pos} {e e':CE} (h:OK G c x e) (hn:notCall x = true) (h':OK G c b e') (i':notStar b = true) (hp:(ap.endLine == p.line) = true):OK G c (.Call (.Attribute x (sName "endswith") ap) [b] [] p) (.endswith e e'):=
  .plain rfl fun y _ _ _ he=>ob_el he fun u f e1 he=>ob_el he fun t f' e2 he=>mapv he fun hz q=>
    (arm_eval_Call ..).symm▸(notCall_base hn).symm▸wpAny_bind (h.se y f u _ e1 fun r=>wpAny_bind (wpAny_standAt (by
      obtain ⟨val,s₁,V,k,ra⟩:=r
      obtain ⟨s,rfl⟩:=ends_str hz
      obtain ⟨tk,rfl⟩:=ra
      exact meth_at (y.to V) (first:=[.str s tk]) (fv:=.builtin "str.endswith") (sa_cons h' sa_nil i') (all_one i') (show 1 < 29 by decide) hp (A1 e2) (fun pl R hr=>GM.endswith hr) (fun h _=>kept_b _ h _) fun r'=>
        r'.rep.one (P:=fun l=>wpAny (model pw G.w) y.S.A (call (.builtin "str.endswith") (Value.str s tk :: l)) _ y.E r'.s) fun b rb=>ends_at r'.at hz ⟨tk,rfl⟩ rb fun z=>q (.back r'.inv (k.trans r'.kp) z))))
theorem join_flat (xs:List Str):Txt.join Str.empty xs = ⟨(xs.flatMap (·.cps.toList)).toArray⟩:=by
  show Builtin.Str.glued Str.empty xs = _
  rw [StrLaws.glued_eq_join]
  induction xs with
  | nil=>rfl
  | cons x r ih=>
    cases r with
    | nil=>cases x;simp [Str.join]
    | cons y r=>
      show x ++ Str.empty ++ Str.join Str.empty (y :: r) = _
      rw [ih]
      rw [Str.append_empty]
      refine Str.ext' ?_
      rw [Str.cps_append]
      simp
theorem joinL_at (y:At G c) {l:List Atom} {v:AV} {a:Addr} {vs:Array Value} {tk:Tok} {Q:Value→Shared→Prop} (e:joinL l = some v) (hl:y.s.heap.IsList a vs) (r1:Reps y.S.inst l vs.toList) (q:∀ r:Res y y.σ.fl v,Q r.val r.s):Wp y (call (.builtin "str.join") [.str Str.empty tk,.ref a]) Q:=
  bind_el e fun xs hx e=>iff_el e fun h e=>by
    cases e
    refine join_list hl (strsOf_strs r1 hx) ?_ fun t' k=>?_
    · have:=small_100 h
      rw [show Str.empty.length = 0 from rfl];omega
    · rw [join_flat];exact q (.tk _ ⟨_,rfl⟩)
theorem join_at (y:At G c) {u v:AV} {b:Value} {tk:Tok} {Q:Value→Shared→Prop} (e:joinV u = some v) (rb:y.rep u b) (q:∀ r:Res y y.σ.fl v,Q r.val r.s):Wp y (call (.builtin "str.join") [.str Str.empty tk,b]) Q:=
  onL_el e (fun l e rb=>by obtain ⟨a,vs,rfl,_,hl,r1⟩:=rb;exact joinL_at y e hl r1 q)
    (fun e rb=>onO_el e (fun l e rb=>by obtain ⟨a,vs,rfl,_,⟨o,n,ho,hcl,_,hd⟩,r1⟩:=rb;exact joinL_at y e ⟨o,ho,hcl,n,hd⟩ r1 q) (fun e _=>none_el e) rb) rb
theorem ok_join {k:Nat} {b:Expr} {p' ap p:Pos} {e':CE} (h':OK G c b e') (i':notStar b = true) (hp:(ap.endLine == p.line) = true):OK G c (.Call (.Attribute (.Constant (.str Str.empty) k p') (sName "join") ap) [b] [] p) (.join e'):=
  .plain rfl fun y _ _ _ he=>ob_el he fun t f' e2 he=>mapv he fun hz q=>
    (arm_eval_Call ..).symm▸wpAny_bind (Calls.Constant_str (pos:=p') (k:=k) (wpAny_bind (wpAny_standAt
      (have V:Inv G.w G.B y.S y.g ⟨y.σ.loc,y.σ.fl⟩ { y.s with toks:=y.s.toks+1 }:=y.inv.keep fun _ _ e=>e
      meth_at (y.to V) (first:=[.str Str.empty y.s.toks]) (fv:=.builtin "str.join") (sa_cons h' sa_nil i') (all_one i') (show 1 < 29 by decide) hp (A1 e2) (fun pl R hr=>GM.join hr) (fun h _=>kept_b _ h _) fun r'=>
        r'.rep.one (P:=fun l=>wpAny (model pw G.w) y.S.A (call (.builtin "str.join") (Value.str Str.empty y.s.toks :: l)) _ y.E r'.s) fun b rb=>join_at r'.at hz rb fun z=>q (.back r'.inv r'.kp z)))))
theorem reps_of_V {w:World} {fr:List Env} {I:Option (Addr × Addr)} {g:Option Addr} {h:Heap} {vs:List AV} {vals:List Value} (r:RepsV w fr I g h vs vals):∀ {l:List Atom},atomsOf vs = some l→Reps I l vals:=by
  induction r with
  | nil=>intro l e;cases e;exact .nil
  | @cons v val l vals a _ ih=>exact fun e=>onA_el e (fun b e a=>map_el e fun l' hl' e=>by subst e;exact .cons a (ih hl')) (fun e _=>none_el e) a
theorem listV_el {vs:List AV} {l:List Atom} {P:Prop} (h:listV vs = some l) (q:atomsOf vs = some l→l.length ≤ sizeLine→P):P:=bind_el h fun _ e h=>iff_el h fun hs h=>by cases h;exact q e (small_le hs)
theorem ok_list {xs:List Expr} {p:Pos} {l:CA} (h:SA G c xs (evA tabs G.Γ l)):OK G c (.List xs p) (.list l):=
  .plain rfl fun y _ _ _ he q=>obL_el he fun vs f e1 he=>map_el he fun k hk e=>by
    cases e
    exact listV_el hk fun ha hs=>wpAny_List (h y _ vs p _ e1 fun r=>
    have R:=reps_of_V r.rep ha
    ⟨by rw [R.len];exact hs,q (.back r.inv r.kp (.keep (x:=r.at) (v:=.list k) (val:=.ref r.s.heap.objs.size) (s':={ r.s with heap:=r.s.heap.push { cls:=.type "list",data:=.seq r.vals.toArray } }) (fun _ _ e=>Heap.get?_push_of_some _ e) ⟨_,_,rfl,fresh_g r.inv (get_size _),⟨_,Heap.get?_push_size _ rfl,rfl,_,rfl⟩,R⟩))⟩)
theorem ok_tup {xs:List Expr} {m:Nat} {p:Pos} {l:CA} (h:SA G c xs (evA tabs G.Γ l)):OK G c (.Tuple xs m p) (.tup l):=
  .plain rfl fun y _ _ _ he q=>obL_el he fun vs f e1 he=>map_el he fun k hk e=>by
    cases e
    exact listV_el hk fun ha hs=>wpAny_Tuple (h y _ vs p _ e1 fun r=>
    have R:=reps_of_V r.rep ha
    ⟨by rw [R.len];exact hs,q (.back r.inv r.kp (.keep (x:=r.at) (v:=.tup k) (val:=.ref r.s.heap.objs.size) (s':={ r.s with heap:=r.s.heap.push { cls:=.type "tuple",data:=.seq r.vals.toArray } }) (fun _ _ e=>Heap.get?_push_of_some _ e) ⟨_,_,rfl,fresh_g r.inv (get_size _),⟨_,_,Heap.get?_push_size _ rfl,rfl,rfl⟩,R⟩))⟩)
end Mine
namespace Mine
noncomputable abbrev Row:Type:=Nat × Str × Int × Int
noncomputable def amoO (P:Params) (r:Row):Obj:=((KK P).lookup r.1).getD default
noncomputable def amoX (P:Params) (r:Row):Addr:=(amoO P r).dict.getD 0
noncomputable def amoD (P:Params) (r:Row):Obj:=((KK P).lookup (amoX P r)).getD default
noncomputable def tokF (o:Option PySem.Builtin.ObjectAttr.Found):Tok:=match o with
  | some (.value (.str _ t))=>t
  | some (.value (.int _ t))=>t
  | _=>0
noncomputable def amoF (P:Params) (x:Str) (r:Row):Option PySem.Builtin.ObjectAttr.Found:=findObj (KK P) 218 (some (amoD P r)) x
theorem amoA (P:Params):amoRows.map (fun r=>(KK P).lookup r.1) = amoRows.map fun r=>some ⟨.ref 218,some (amoX P r),.plain,(amoO P r).slots⟩:=by kernel_rfl!
theorem amoB (P:Params):amoRows.map (fun r=>(KK P).lookup (amoX P r)) = amoRows.map fun r=>some (amoD P r):=by kernel_rfl!
theorem amoS (P:Params):amoRows.map (amoF P (sName "s")) = amoRows.map fun r=>some (.value (.str r.2.1 (tokF (amoF P (sName "s") r)))):=by kernel_rfl!
theorem amoI (P:Params):amoRows.map (amoF P (sName "substring_i")) = amoRows.map fun r=>some (.value (.int r.2.2.1 (tokF (amoF P (sName "substring_i") r)))):=by kernel_rfl!
theorem amoR (P:Params):amoRows.map (amoF P (sName "result")) = amoRows.map fun r=>some (.value (.int r.2.2.2 (tokF (amoF P (sName "result") r)))):=by kernel_rfl!
theorem amoGet (P:Params):findIn (KK P) (.ref 218) "__getattribute__" = some (some (.builtin "object.__getattribute__")):=by kernel_rfl!
theorem clsAll (P:Params):clsTab.map (fun r=>findCls (KK P) (.ref 407) (.type "type") r.1) = clsTab.map fun r=>some (.val (.ref r.2)):=by kernel_rfl!
theorem clsReads (P:Params):readsIn (KK P) 407 (.type "type") = true:=by kernel_rfl!
theorem nsCls (P:Params):nsIn (KK P) mainGlobals (sName "DutchPorterStemmer") = some (some (.ref 407)):=by kernel_rfl!
theorem nsSigns (P:Params):nsIn (KK P) mainGlobals (sName "_law_signs") = some (some (.str signsS 1176)):=by kernel_rfl!
theorem nsVow (P:Params):nsIn (KK P) mainGlobals (sName "_law_vowels") = some (some (.ref 476)):=by kernel_rfl!
theorem vowIs (P:Params):(KK P).lookup 476 = some ⟨.type "list",none,.seq #[.str ⟨#[97]⟩ 1190,.str ⟨#[101]⟩ 1191,.str ⟨#[105]⟩ 1192,.str ⟨#[111]⟩ 1193,.str ⟨#[117]⟩ 1194,.str ⟨#[121]⟩ 1195,.str ⟨#[232]⟩ 1196] 0,#[]⟩:=by kernel_rfl!
theorem dutchGet (P:Params):findIn (KK P) (.ref 407) "__getattribute__" = some (some (.builtin "object.__getattribute__")):=by kernel_rfl!
theorem dutchHook (P:Params):findIn (KK P) (.ref 407) "__getattr__" = some none:=by kernel_rfl!
theorem dutchDict (P:Params):hasDictIn (KK P) 407 = true:=by kernel_rfl!
noncomputable def fldF (P:Params) (x:Str):Option Value:=(findIn (KK P) (.ref 407) x).getD none
theorem fldA (P:Params):fnames.map (findIn (KK P) (.ref 407)) = fnames.map fun x=>some (fldF P x):=by kernel_rfl!
theorem fldB (P:Params):fnames.map (fun x=>noGet (KK P) (fldF P x)) = fnames.map fun _=>true:=by kernel_rfl!
theorem fldC (P:Params):fnames.map (takerIn (KK P) 407) = fnames.map fun _=>some none:=by kernel_rfl!
noncomputable def fnName (i:Nat):Str:=fnIdx.getD i Str.empty
noncomputable def fnV (i:Nat):Value:=.ref (fnAddr.getD i 0)
theorem methA (P:Params):(List.range 25).map (fun i=>findIn (KK P) (.ref 407) (fnName i)) = (List.range 25).map fun i=>some (some (fnV i)):=by kernel_rfl!
theorem methB (P:Params):(List.range 25).map (fun i=>typeIn (KK P) (fnV i)) = (List.range 25).map fun _=>some (.type "function"):=by kernel_rfl!
theorem methC:(List.range 25).all (fun i=>!fnames.contains (fnName i)) = true:=by decide +kernel
theorem keepA (P:Params):(List.range 36).map (fun i=>keepIn (KK P) (fnV i)) = (List.range 36).map fun _=>true:=by kernel_rfl!
theorem defA (P:Params):(List.range' 25 11).map (fun i=>nsIn (KK P) mainGlobals (fnName i)) = (List.range' 25 11).map fun i=>some (some (fnV i)):=by kernel_rfl!
theorem fnName_is {i:Nat} {x:Str} (h:fnIdx[i]? = some x):fnName i = x:=by unfold fnName;rw [List.getD_eq_getElem?_getD,h];rfl
theorem lookIn_of {o:Obj} {es:Array DictEntry} {ep:Nat} (hd:o.data = .dict es ep) (hk:StrKeys es) {x:Str}:lookIn x o = some (nsFind es x):=by
  unfold lookIn nsFind findBy
  rw [hd]
  simp only
  rw [←Array.find?_toList]
  cases h:es.toList.find? (fun e=>e.key.isStr x) with
  | some e=>rfl
  | none=>
    simp only [Option.map_none]
    have:es.toList.any (·.refKey) = false:=by
      rw [List.any_eq_false]
      intro e he
      obtain ⟨n,t,h⟩:=hk e (by simpa using he)
      simp [DictEntry.refKey,h]
    rw [this];rfl
variable {G:Gl} {c:Cx}
theorem At.kin (y:At G c):(KK G.w.params).In y.s.heap:=(kIn G.fixed).keeps y.inv.stays
theorem ok_signs {p:Pos} (hx:isGl c (sName "_law_signs") = true):OK G c (.Name (sName "_law_signs") p) (.glob (sName "_law_signs")):=
  .plain rfl fun y _ _ _ he=>mapv he fun hz q=>by
    have e:tabs.glob (sName "_law_signs") = some (.at (.str signsS)):=by kernel_rfl!
    cases e.symm.trans hz
    exact glob_at y hx (nsSigns _) (q (.now ⟨_,rfl⟩))
theorem ok_vow {p:Pos} (hx:isGl c (sName "_law_vowels") = true):OK G c (.Name (sName "_law_vowels") p) (.glob (sName "_law_vowels")):=
  .plain rfl fun y _ _ _ he=>mapv he fun hz q=>by
    have e:tabs.glob (sName "_law_vowels") = some (.list vowelsL):=by kernel_rfl!
    cases e.symm.trans hz
    have hB:=kIn G.fixed _ _ (vowIs G.w.params)
    refine glob_at y hx (nsVow _) (q (.now ⟨476,_,rfl,fun e=>?_,⟨_,y.inv.stays _ _ hB,rfl,_,rfl⟩,?_⟩))
    · have:=(y.inv.gown _ e).2.2.2.2.1
      rw [hB] at this;cases this
    · exact .cons ⟨_,rfl⟩ (.cons ⟨_,rfl⟩ (.cons ⟨_,rfl⟩ (.cons ⟨_,rfl⟩ (.cons ⟨_,rfl⟩ (.cons ⟨_,rfl⟩ (.cons ⟨_,rfl⟩ .nil))))))
theorem attr_at (y:At G c) {o:Expr} {a:Str} {p:Pos} {Q:Value→Shared→Prop} (hn:notCall o = true) (h:Wp y (eval o y.S.env) fun v s₁=>wpAny (model pw G.w) y.S.A (getAttr v a true) Q y.E s₁):Wp y (eval (.Attribute o a p) y.S.env) Q:=
  (arm_eval_Attribute ..).symm▸(notCall_base hn).symm▸wpAny_bind (wpAny_mono h (fun v s₁ h₁=>wpAny_bind (wpAny_standAt (wpAny_bind (wpAny_holding (wpAny_mono h₁ (fun r s₂ h₂=>wpAny_bind (wpAny_letTemporaryGo (wpAny_pure h₂))) fun _ _ e=>e))))) fun _ _ e=>e)
theorem lookup_mem {β:Type} {x:Str} {z:β}:∀ {l:List (Str × β)},l.lookup x = some z→(x,z) ∈ l
  | [],h=>nomatch h
  | (k,b) :: l,h=>by
    rw [List.lookup_cons] at h
    split at h
    · rename_i hk;cases h;rw [beq_iff_eq.mp hk];exact .head _
    · exact .tail _ (lookup_mem h)
theorem ok_cattr {x:Str} {p p':Pos} (hx:isGl c (sName "DutchPorterStemmer") = true):OK G c (.Attribute (.Name (sName "DutchPorterStemmer") p') x p) (.cattr x):=
  .plain rfl fun y _ _ _ he q=>map_el he fun z hz e=>by
    cases e
    have h:=map_at (clsAll G.w.params) (lookup_mem (l:=clsTab) hz)
    exact attr_at y rfl (glob_at y hx (nsCls _) (cls_value y.kin (clsReads _) h rfl (q (.tk _ rfl))))
theorem ite_el {β:Type} {p:Prop} [Decidable p] {a b:Option β} {r:β} {P:Prop} (h:(if p then a else b) = some r) (q:p→a = some r→P) (q':b = some r→P):P:=by
  by_cases hp:p
  · exact q hp ((if_pos hp).symm.trans h)
  · exact q' ((if_neg hp).symm.trans h)
theorem amoAt_mem {a:Addr} {x:Str} {v:Atom} {l:List Row} (h:amoAt l a x = some v):∃ r ∈ l,r.1 = a∧((x = sName "s"∧v = .str r.2.1) ∨ (x = sName "substring_i"∧v = .int r.2.2.1) ∨ (x = sName "result"∧v = .int r.2.2.2)):=by
  induction l with
  | nil=>cases h
  | cons z l ih=>
    obtain ⟨b,s,i,r⟩:=z
    unfold amoAt at h
    refine ite_el h (fun e h=>⟨_,.head _,e.symm,ite_el h (fun e h=>.inl ⟨e,(Option.some.inj h).symm⟩) fun h=>ite_el h (fun e h=>.inr (.inl ⟨e,(Option.some.inj h).symm⟩)) fun h=>ite_el h (fun e h=>.inr (.inr ⟨e,(Option.some.inj h).symm⟩)) fun h=>nomatch h⟩) fun h=>?_
    obtain ⟨r,hr,z⟩:=ih h
    exact ⟨r,.tail _ hr,z⟩
theorem amoV_at (y:At G c) {b:Addr} {x:Str} {z:Atom} {Q:Value→Shared→Prop} (hz:tabs.amo b x = some z) (q:∀ r:Res y y.σ.fl (.at z),Q r.val r.s):Wp y (getAttr (.ref b) x true) Q:=by
  obtain ⟨r,hr,rfl,hx⟩:=amoAt_mem hz
  have h1:=map_at (amoA G.w.params) hr
  have h2:=map_at (amoB G.w.params) hr
  have I:=InstAt.of_K y.kin h1 h2
  rcases hx with ⟨rfl,rfl⟩ | ⟨rfl,rfl⟩ | ⟨rfl,rfl⟩
  · have h:=map_at (amoS G.w.params) hr
    exact get_value y.kin I (amoGet _) h rfl (q (.tk _ ⟨_,rfl⟩))
  · have h:=map_at (amoI G.w.params) hr
    exact get_value y.kin I (amoGet _) h rfl (q (.tk _ ⟨_,rfl⟩))
  · have h:=map_at (amoR G.w.params) hr
    exact get_value y.kin I (amoGet _) h rfl (q (.tk _ ⟨_,rfl⟩))
theorem ref_at {y:At G c} {s:Shared} {b:Addr} {v:Value} (h:RepAt y s (.at (.cst (.ref b))) v):v = .ref b:=h
theorem ok_amo {o:Expr} {x:Str} {p:Pos} {e:CE} (h:OK G c o e) (hn:notCall o = true):OK G c (.Attribute o x p) (.amo e x):=
  .plain rfl fun y _ _ _ he q=>obR_el he fun b f e1 he=>map_el he fun z hz e=>by
    cases e
    refine attr_at y hn (h.se y _ _ _ e1 fun r=>?_)
    rw [ref_at r.rep]
    exact amoV_at r.at hz fun w=>q (.back r.inv r.kp w)
theorem isMe_get {o:Option AV} (h:isMe o = true):o = some (.at .me):=by
  unfold isMe at h
  split at h
  · rfl
  · cases h
theorem selfIs_get {σ:AS} (h:selfIs σ = true):locGet σ 0 = some (.at .me):=isMe_get h
theorem self_at (y:At G c) {x:Str} {p:Pos} {i:Nat} {Q:Value→Shared→Prop} (hx:c.names[i]? = some x) (hd:x ≠ sName "__debug__") (hs:locGet y.σ i = some (.at .me)) (q:∀ x dx,y.S.inst = some (x,dx)→Q (.ref x) y.s):Wp y (eval (.Name x p) y.S.env) Q:=
  var_at y hx hd hs fun _ r=>by obtain ⟨a,dx,hI,rfl⟩:=r;exact q a dx hI
theorem fldGet_is {fl:FL} {i:Nat} {a:Atom} (h:fldGet fl i = some a):fl[i]? = some (some a):=by
  unfold fldGet at h
  split at h
  · rename_i e;cases h;exact e
  · cases h
theorem isPl_handed {I:Option (Addr × Addr)} {a:Atom} {u:Value} (rp:isPl a = true) (ru:RepA I a u):handedIn u = true:=by
  unfold isPl at rp
  split at rp
  · obtain ⟨t,rfl⟩:=ru;rfl
  · obtain ⟨t,rfl⟩:=ru;rfl
  · cases ru;rfl
  · cases rp
theorem fld_facts {i:Nat} {a:Str} (P:Params) (h:fnames[i]? = some a):∃ attr,findIn (KK P) (.ref 407) a = some attr∧noGet (KK P) attr = true∧takerIn (KK P) 407 a = some none:=
  have m:=List.mem_of_getElem? h
  have h1:=map_at (fldA P) m
  have h2:=map_at (fldB P) m
  have h3:=map_at (fldC P) m
  ⟨_,h1,h2,h3⟩
theorem getf_at (y:At G c) {expr:Bool} {i:Nat} {x dx:Addr} {a:Str} {b:Atom} {Q:Value→Shared→Prop} (hI:y.S.inst = some (x,dx)) (h2:fnames[i]? = some a) (hb:fldGet y.σ.fl i = some b)
    (q:∀ u,RepA y.S.inst b u→isPl b = true→Q u { y.s with toks:=y.s.toks+1 }):Wp y (getAttr (.ref x) a expr) Q:=by
  have J:=y.inv.inst x dx hI
  obtain ⟨mA,hns,hno,hfl⟩:=J.ns
  have hv:=hfl i a h2
  rw [fldGet_is hb] at hv
  obtain ⟨u,hu,ru,rp⟩:=hv
  obtain ⟨o',es,ep,ho,hd,hk,huq,hfind⟩:=hns
  obtain ⟨attr,hat,hG,_⟩:=fld_facts G.w.params h2
  have hl:lookIn a o' = some (some u):=by rw [lookIn_of hd hk,hfind a,hu]
  exact get_value y.kin ⟨J.obj,rfl,rfl,ho⟩ (dutchGet _) (findObj_own (dutchDict _) hat hG hl) (isPl_handed rp ru) (q u (by rw [hI];exact ru) rp)
theorem ok_fld {i:Nat} {x a:Str} {p p':Pos} (hx:c.names[0]? = some x) (hd:x ≠ sName "__debug__") (h2:fnames[i]? = some a):OK G c (.Attribute (.Name x p') a p) (.fld i):=
  .plain rfl fun y fl v _ he q=>by
    change (if selfIs y.σ then (fldGet y.σ.fl i).map fun a=>(AV.at a,y.σ.fl) else none) = _ at he
    split at he
    · rename_i hs
      refine map_el he fun b hb e=>?_
      cases e
      exact attr_at y rfl (self_at y hx hd (selfIs_get hs) fun ix dx hI=>getf_at y hI h2 hb fun u ru _=>q (.tk _ ru))
    · cases he
end Mine
namespace Mine
variable {G:Gl} {c:Cx}
noncomputable def conK (e:Expr):Option (Const × Nat × Pos):=match e with
  | .Constant k a b=>some (k,a,b)
  | _=>none
theorem conK_ok (e:Expr):(conK e).elim True fun z=>e = .Constant z.1 z.2.1 z.2.2:=by cases e<;>first | rfl | trivial
theorem view_el {α:Type} {o:Option α} {P:α→Prop} {z:α} (v:o.elim True P) (h:o = some z):P z:=by subst h;exact v
noncomputable def strK (k:Const):Option Str:=match k with
  | .str s=>some s
  | _=>none
theorem strK_ok (k:Const):(strK k).elim True fun z=>k = .str z:=by cases k<;>first | rfl | trivial
noncomputable def conS (e:Expr):Option (Str × Nat × Pos):=(conK e).bind fun k=>(strK k.1).map fun s=>(s,k.2)
theorem conS_el {e:Expr} {z:Str × Nat × Pos} (h:conS e = some z):e = .Constant (.str z.1) z.2.1 z.2.2:=
  bind_el h fun k h1 h=>map_el h fun s h2 e=>by subst e;rw [view_el (conK_ok _) h1,view_el (strK_ok _) h2]
noncomputable def isPairs:List (Option Expr)→List Expr→Option (List (Str × Str))
  | [],[]=>some []
  | [],_ :: _=>none
  | _ :: _,[]=>none
  | o :: ks,v :: vs=>o.bind fun e=>(conS e).bind fun k=>(conS v).bind fun w=>(isPairs ks vs).map ((k.1,w.1) :: ·)
theorem isPairs_el {P:List (Option Expr)→List Expr→List (Str × Str)→Prop} (hn:P [] [] []) (hc:∀ k a b v d e ks vs l,isPairs ks vs = some l→P ks vs l→P (some (.Constant (.str k) a b) :: ks) (.Constant (.str v) d e :: vs) ((k,v) :: l))
    (ks:List (Option Expr)):∀ {vs l},isPairs ks vs = some l→P ks vs l:=by
  induction ks with
  | nil=>intro vs l h;cases vs with
    | nil=>cases h;exact hn
    | cons _ _=>cases h
  | cons o ks ih=>intro vs l h;cases vs with
    | nil=>cases h
    | cons v vs=>
      refine bind_el h fun e h1 h=>bind_el h fun k h2 h=>bind_el h fun w h3 h=>map_el h fun l' h' e=>?_
      subst e h1;rw [conS_el h2,conS_el h3];exact hc _ _ _ _ _ _ _ _ _ h' (ih h')
structure PairsOk (w:World) (env:Env) (pos:Pos) (ks:List (Option Expr)) (vs:List Expr) (l:List (Str × Str)) (pairs:List (Sem Value × Sem Value)):Prop where
  zip:(evalEachOpt ks env).zip ((evalEach vs env).map fun v=>do let x ←v;standAt pos;pure x) = pairs.map (fun p=>(some p.1,p.2))
  len:pairs.length = l.length
  run:∀ (A:Around) (s:Shared) (R:List (Value × Value)→Shared→Prop) (E:Value→Shared→Prop),(∀ vs kvs tk,Carries (strKind pw w) vs kvs→kvs.map (·.1) = l.map (·.1)→(∀ x,∃ t,valueAt kvs x = (dictGet x l).map fun y=>Value.str y t)→R vs { s with toks:=tk })→wpAny (model pw w) A (evalPairs pairs) R E s
theorem valueAt_cons {x z y:Str} {t:Tok} {kvs:List (Str × Value)} {l:List (Str × Str)} (h:∃ t,valueAt kvs z = (dictGet z l).map fun y=>Value.str y t):∃ t',valueAt ((x,.str y t) :: kvs) z = (dictGet z ((x,y) :: l)).map fun y=>Value.str y t':=by
  unfold valueAt dictGet
  rw [List.find?_cons]
  by_cases hz:x = z
  · rw [if_pos hz,decide_eq_true hz];exact ⟨t,rfl⟩
  · rw [if_neg hz,decide_eq_false hz];exact h
theorem pairs_ok {w:World} {env:Env} {pos:Pos} {ks:List (Option Expr)} {vs:List Expr} {l:List (Str × Str)} (h:isPairs ks vs = some l):∃ pairs,PairsOk w env pos ks vs l pairs:=by
  refine isPairs_el (P:=fun ks vs l=>∃ pairs,PairsOk w env pos ks vs l pairs) ⟨[],rfl,rfl,fun A s R E q=>evalPairs_nil (q [] [] s.toks trivial rfl fun x=>⟨0,rfl⟩)⟩ (fun k a b v d e ks vs l _ ⟨pairs,e1,e2,e3⟩=>?_) ks h
  refine ⟨(eval (.Constant (.str k) a b) env,do let z ←eval (.Constant (.str v) d e) env;standAt pos;pure z) :: pairs,?_,congrArg (·+1) e2,fun A s R E q=>?_⟩
  · show (some (eval _ env),_) :: _ = (some _,_) :: _
    rw [←e1];rfl
  · refine evalPairs_cons (Calls.Constant_str (wpAny_bind (Calls.Constant_str (wpAny_bind (wpAny_standAt (wpAny_pure ?_))))))
    refine e3 A _ _ E fun vs kvs tk hc hk hv=>?_
    exact q _ ((k,.str v (s.toks+1)) :: kvs) tk ⟨strKind_is pw w k s.toks,rfl,hc⟩ (congrArg (k :: ·) hk) fun z=>valueAt_cons (hv z)
theorem merged_nodup {K:Type} [DecidableEq K]:∀ (more acc:List (K × Value)),(more.map (·.1)).Nodup→(∀ k ∈ more.map (·.1),k ∉ acc.map (·.1))→merged acc more = acc ++ more
  | [],acc,_,_=>by simp [merged]
  | (k,v) :: r,acc,hn,hd=>by
    have h1:stored acc k v = acc ++ [(k,v)]:=by
      unfold stored
      rw [if_neg]
      intro h
      obtain ⟨x,hx,e⟩:=List.any_eq_true.mp h
      exact hd k (by simp) (List.mem_map.mpr ⟨x,hx,of_decide_eq_true e⟩)
    show merged (stored acc k v) r = _
    rw [List.map_cons,List.nodup_cons] at hn
    rw [h1,merged_nodup r _ hn.2 fun j hj=>?_]
    · simp
    · rw [List.map_append,List.mem_append]
      rintro (h | h)
      · exact hd j (List.mem_cons_of_mem _ hj) h
      · simp at h;subst h;exact hn.1 hj
noncomputable def dictOk (l:List (Str × Str)):Bool:=!l.isEmpty && (decide (l.length ≤ 15) && decide ((l.map (·.1)).Nodup))
theorem ok_dict {ks:List (Option Expr)} {vs:List Expr} {p:Pos} {l:List (Str × Str)} (h:isPairs ks vs = some l) (hd:dictOk l = true):OK G c (.Dict ks vs p) (.dict l):=
  .plain rfl fun y _ _ _ he=>somev he fun q=>by
    unfold dictOk at hd
    rw [Bool.and_eq_true,Bool.and_eq_true] at hd
    have h3:=of_decide_eq_true hd.2.1
    have h4:=of_decide_eq_true hd.2.2
    obtain ⟨pairs,e1,e2,e3⟩:=pairs_ok (w:=G.w) (env:=y.S.env) (pos:=p) h
    refine wpAny_Dict_pairs (knd:=strKind pw G.w) e1 (fun z=>?_) (by omega) (e3 _ _ _ _ fun vs kvs tk hcr hk hv=>⟨kvs,hcr,Heap.DictOf.new _,fun h' hm hs=>?_⟩)
    · subst z;cases l with
      | nil=>cases hd.1
      | cons _ _=>cases e2
    · have hmm:merged [] kvs = kvs:=merged_nodup kvs [] (by rw [hk];exact h4) fun _ _ h=>nomatch h
      rw [hmm] at hm
      have hne:(y.s.heap.objs.size == sysModules) = false:=by
        refine beq_eq_false_iff_ne.mpr fun e=>?_
        have:=Heap.lt_size (y.kin 1 _ rfl)
        rw [e] at this
        exact absurd this (by decide)
      exact q (.keep (s':={ y.s with heap:=h',toks:=_ }) (fun b o e=>hs.extBut b o (Nat.ne_of_lt (Heap.lt_size e)) (Heap.get?_push_of_some _ e)) ⟨_,rfl,fresh_g y.inv (get_size _),fresh_apart y.inv (get_size _),hne,_,hm.mapOf,hv⟩)
theorem gnone {w:World} {B:Heap} {S:Sit} {g:Option Addr} {σ:AS} {s:Shared} (V:Inv w B S g σ s) (h:hasOwn σ = false):g = none:=by
  cases g with
  | none=>rfl
  | some a=>have:=(V.gown a rfl).1;rw [h] at this;cases this
theorem RepsV.toNone {w:World} {fr:List Env} {I:Option (Addr × Addr)} {g:Option Addr} {h:Heap} {vs:List AV} {vals:List Value} (hg:g = Option.none) (r:RepsV w fr I g h vs vals):RepsV w fr I Option.none h vs vals:=hg▸r
theorem Rep.ofNone {w:World} {fr:List Env} {I:Option (Addr × Addr)} {g:Option Addr} {h:Heap} {v:AV} {val:Value} (hg:g = Option.none) (r:Rep w fr I Option.none h v val):Rep w fr I g h v val:=hg▸r
theorem call_el {β:Type} {a b:Bool} {o:Option β} {r:β} {P:Prop} (h:(if !a || b then none else o) = some r) (q:a = true→b = false→o = some r→P):P:=by
  cases a<;>cases b<;>first | exact q rfl rfl h | cases h
theorem gamma_at (y:At G c) {f:Nat} {vs:List AV} {vals:List Value} {v:AV} {fl':FL} (hσ:hasOwn y.σ = false) (hs:vs.all AV.isSt = true) (he:G.Γ f vs y.σ.fl = some (v,fl')) (rv:RepsV G.w y.S.fr y.S.inst y.g y.s.heap vs vals) {Q:Value→Shared→Prop} (q:∀ r:Res y fl' v,Q r.val r.s) :
    Wp y (call (.ref (fnAddr.getD f 0)) vals) Q:=
  have hg:=gnone y.inv hσ
  G.calls f vs y.σ.fl v fl' he y.S y.s vals Q y.E y.good y.inv.toHInv y.inv.gens y.inv.os hs (rv.toNone hg) fun val s₂ H₂ k₂ g₂ o₂ r₂=>q ⟨val,s₂,y.inv.kp H₂ k₂ g₂ o₂,k₂,r₂.ofNone hg⟩
theorem keepK {w:World} {K:Frag} {f:Value} {h:Heap} (hk:keepIn K f = true) (X:K.In h):Kept (model pw w) h f:=keeps_K hk h X
theorem ok_callG {x:Str} {p p':Pos} {xs:List Expr} {l:CA} {f:Nat} (hx:isGl c x = true) (hf:fnIdx[f]? = some x) (h25:25 ≤ f) (h:SA G c xs (evA tabs G.Γ l)) (i:xs.all notStar = true):OK G c (.Call (.Name x p') xs [] p) (.callG f l):=
  .plain rfl fun y fl v _ he q=>obL_el he fun vs f' e1 he=>call_el he fun hs ho he=>by
    have h36:f < 36:=(List.getElem?_eq_some_iff.mp hf).1
    have d1:=map_at (defA G.w.params) (List.mem_range'_1.mpr ⟨h25,h36⟩)
    rw [fnName_is hf] at d1
    have d2:=map_at (keepA G.w.params) (List.mem_range.mpr h36)
    exact (arm_eval_Call_Name' ..).symm▸wpAny_bind (glob_at y hx d1 (callW (first:=[]) i (h y f' vs p _ e1 fun r=>⟨keepK d2 ((kIn G.fixed).keeps r.inv.stays),gamma_at r.at ho hs he r.rep fun z=>q (.back r.inv r.kp z)⟩)))
theorem shadow_of {h:Heap} {fr:List Env} {B:Heap} {x dx:Addr} {fl:FL} (J:InstOk fr B h x dx fl) {nm:Str} (hn:nm ∉ fnames) :
    ∃ o,InstAt h x ⟨.ref 407,some dx,.plain,#[]⟩ 407 (some o)∧shadowIn (some o) nm = some false:=by
  obtain ⟨mA,⟨o,es,ep,ho,hd,hk,_,hfind⟩,hno,_⟩:=J.ns
  refine ⟨o,⟨J.obj,rfl,rfl,ho⟩,?_⟩
  unfold shadowIn
  simp only
  rw [lookIn_of hd hk,hfind nm,hno nm hn];rfl
theorem ok_callM {x nm:Str} {p' ap p:Pos} {xs:List Expr} {l:CA} {i f:Nat} (hx:c.names[i]? = some x) (hd:x ≠ sName "__debug__") (hf:fnIdx[f]? = some nm) (h25:f < 25) (h29:xs.length < 29) (hp:(ap.endLine == p.line) = true) (h:SA G c xs (evA tabs G.Γ l)) (hs:xs.all notStar = true) :
    OK G c (.Call (.Attribute (.Name x p') nm ap) xs [] p) (.callM i f l):=
  .plain rfl fun y fl v _ he q=>by
    change (if isMe (locGet y.σ i) then _ else none) = _ at he
    split at he
    · rename_i hme
      refine obL_el he fun vs f' e1 he=>call_el he fun hst ho he=>?_
      have hm:=List.mem_range.mpr h25
      have d1:=map_at (methA G.w.params) hm
      have d2:=map_at (methB G.w.params) hm
      have d3:=List.all_eq_true.mp methC f hm
      have d4:=map_at (keepA G.w.params) (List.mem_range.mpr (Nat.lt_trans h25 (by decide)))
      rw [fnName_is hf] at d1 d3
      have d3:nm ∉ fnames:=fun m=>by rw [List.contains_iff_mem.mpr m] at d3;cases d3
      refine (arm_eval_Call ..).symm▸wpAny_bind (self_at y hx hd (isMe_get hme) fun ix dx hI=>wpAny_bind (wpAny_standAt ?_))
      obtain ⟨o,I,hsh⟩:=shadow_of (y.inv.inst ix dx hI) d3
      refine meth_at y (first:=[.ref ix]) (fv:=.ref (fnAddr.getD f 0)) h hs h29 hp e1 (fun pl R hr=>method_fn y.kin I (dutchGet _) (dutchHook _) d1 d2 hsh hr) (fun h hB=>keepK d4 ((kIn G.fixed).keeps hB)) fun r=>?_
      exact gamma_at r.at (vs:=.at .me :: vs) (vals:=.ref ix :: r.vals) ho (Bool.and_eq_true_iff.mpr ⟨rfl,hst⟩) he (.cons ⟨ix,dx,hI,rfl⟩ r.rep) fun z=>q (.back r.inv r.kp z)
    · cases he
end Mine
namespace Mine
inductive ItIs (I:Option (Addr × Addr)) (g:Option Addr) (h:Heap) (a:Addr):List Atom→Prop
  | list (ax:Addr) (vs:Array Value) (i:Nat) (l:List Atom):h.IsListIter a ax i→h.IsList ax vs→ax ≠ a→g ≠ some ax→Reps I l vs.toList→ItIs I g h a (l.drop i)
  | ascii (x:Str) (t:Tok) (i:Nat):h.IsStrIter a "str_ascii_iterator" x t i→ItIs I g h a ((x.cps.toList.drop i).map fun c=>.str (chr1 c))
  | wide (x:Str) (t:Tok) (i:Nat):h.IsStrIter a "str_iterator" x t i→ItIs I g h a ((x.cps.toList.drop i).map fun c=>.str (chr1 c))
  | range (lo st:Int) (n:Nat):IsRangeIter h a lo n st→ItIs I g h a ((List.range n).map fun (j:Nat)=>.int (lo+st * (j:Int)))
theorem ItIs.keep {I:Option (Addr × Addr)} {g g':Option Addr} {h h':Heap} {a:Addr} {r:List Atom} (x:ItIs I g h a r) (k:∀ o,h.get? a = some o→h'.get? a = some o)
    (kl:∀ b o,h.get? b = some o→o.cls = .type "list"→(∃ vs n,o.data = .seq vs n)→g ≠ some b→∃ sl,h'.get? b = some { o with slots:=sl }) (hg:g' = g ∨ ∃ b,g' = some b∧h.get? b = none):ItIs I g' h' a r:=by
  cases x with
  | list ax vs i l h1 h2 h3 h4 h5=>
    refine .list ax vs i l ?_ (isList_slots h2 fun o ho=>kl ax o ho (by obtain ⟨o',e,c,_⟩:=h2;rw [ho] at e;cases e;exact c) (by obtain ⟨o',e,c,n,hd⟩:=h2;rw [ho] at e;cases e;exact ⟨_,n,hd⟩) h4) h3 ?_ h5
    · obtain ⟨o,ho,r⟩:=h1;exact ⟨o,k o ho,r⟩
    · rcases hg with rfl | ⟨b,rfl,hb⟩
      · exact h4
      · intro e;cases e;obtain ⟨o,ho,_⟩:=h2;rw [hb] at ho;cases ho
  | ascii x t i h1=>obtain ⟨o,ho,r⟩:=h1;exact .ascii x t i ⟨o,k o ho,r⟩
  | wide x t i h1=>obtain ⟨o,ho,r⟩:=h1;exact .wide x t i ⟨o,k o ho,r⟩
  | range lo st n h1=>exact .range lo st n (k _ h1)
section
variable {w:World} {g:Option Addr} {s:Shared} {E:Value→Shared→Prop}
theorem next_some {A:Around} {I:Option (Addr × Addr)} {a:Addr} {x:Atom} {r:List Atom} {Q:Option Value→Shared→Prop} (h:ItIs I g s.heap a (x :: r))
    (q:∀ v h' tk,RepA I x v→ItIs I g h' a r→Heap.SameBut a s.heap h'→Q (some v) { s with heap:=h',toks:=tk }):wpAny (model pw w) A (pyNext (.ref a)) Q E s:=by
  generalize hl:x :: r = l at h
  cases h with
  | list ax vs i l h1 h2 h3 h4 h5=>
    have hx:l[i]? = some x:=by
      have:=congrArg (·[0]?) hl
      simpa using this.symm
    have hr:r = l.drop (i+1):=by
      have:=congrArg List.tail hl
      simpa using this
    obtain ⟨v,hv,rv⟩:=h5.get hx
    refine wpAny_pyNext_list_item h1 h2 (x:=v) (by simpa using hv) fun h' hi hs=>q v h' s.toks rv ?_ hs
    rw [hr]
    exact .list ax vs (i+1) l hi (let ⟨o,ho,r⟩:=h2;⟨o,(hs.2 ax h3).trans ho,r⟩) h3 h4 h5
  | ascii y t i h1=>
    cases hd:y.cps.toList.drop i with
    | nil=>rw [hd] at hl;cases hl
    | cons c cs=>
      rw [hd] at hl
      cases hl
      have hc:y.cps[i]? = some c:=by
        have:=congrArg (·[0]?) hd
        simpa using this
      have hcs:cs = y.cps.toList.drop (i+1):=by
        have:=congrArg List.tail hd
        simpa using this.symm
      refine wpAny_pyNext_ascii_item h1 hc fun h' hi hs=>q _ h' _ ⟨_,rfl⟩ ?_ hs
      rw [hcs];exact .ascii y t (i+1) hi
  | wide y t i h1=>
    cases hd:y.cps.toList.drop i with
    | nil=>rw [hd] at hl;cases hl
    | cons c cs=>
      rw [hd] at hl
      cases hl
      have hc:y.cps[i]? = some c:=by
        have:=congrArg (·[0]?) hd
        simpa using this
      have hcs:cs = y.cps.toList.drop (i+1):=by
        have:=congrArg List.tail hd
        simpa using this.symm
      refine wpAny_pyNext_wide_item h1 hc fun h' hi hs=>q _ h' _ ⟨_,rfl⟩ ?_ hs
      rw [hcs];exact .wide y t (i+1) hi
  | range lo st k h1=>
    cases k with
    | zero=>simp at hl
    | succ k=>
      rw [List.range_succ_eq_map] at hl
      simp only [List.map_cons,List.map_map,List.cons.injEq] at hl
      obtain ⟨rfl,rfl⟩:=hl
      refine wpAny_pyNext_range_item h1 (by omega) fun h' hi hs=>q _ h' _ ⟨s.toks,by simp⟩ ?_ hs
      · have e:(List.range k).map ((fun (j:Nat)=>Atom.int (lo+st * (j:Int))) ∘ Nat.succ) = (List.range k).map fun (j:Nat)=>Atom.int ((lo+st)+st * (j:Int)):=by
          refine List.map_congr_left fun j _=>?_
          simp only [Function.comp]
          congr 1
          rw [Nat.succ_eq_add_one]
          push_cast
          rw [Int.mul_add];omega
        rw [e]
        refine .range (lo+st) st k ?_
        have:((k+1:Nat):Int) - 1 = (k:Int):=by omega
        rw [this] at hi
        exact hi
theorem next_none {A:Around} {I:Option (Addr × Addr)} {a:Addr} {Q:Option Value→Shared→Prop} (hh:A.handled = none) (h:ItIs I g s.heap a [])
    (q:∀ h' tk,Heap.ExtBut a s.heap h'→Q none { s with heap:=h',toks:=tk }):wpAny (model pw w) A (pyNext (.ref a)) Q E s:=by
  generalize hl:([]:List Atom) = l at h
  cases h with
  | list ax vs i l h1 h2 h3 h4 h5=>
    have:vs.size ≤ i:=by
      have:=List.drop_eq_nil_iff.mp hl.symm
      rw [←Array.length_toList,h5.len];exact this
    exact wpAny_pyNext_list_end hh h1 h2 (by simp;omega) fun h' he=>q h' s.toks he
  | ascii y t i h1=>
    have:y.cps.size ≤ i:=by
      have:=List.map_eq_nil_iff.mp hl.symm
      simpa using List.drop_eq_nil_iff.mp this
    exact wpAny_pyNext_ascii_end hh h1 (by simp;omega) fun h' he=>q h' s.toks he
  | wide y t i h1=>
    have:y.cps.size ≤ i:=by
      have:=List.map_eq_nil_iff.mp hl.symm
      simpa using List.drop_eq_nil_iff.mp this
    exact wpAny_pyNext_wide_end hh h1 (by simp;omega) fun h' he=>q h' s.toks he
  | range lo st k h1=>
    cases k with
    | zero=>exact wpAny_pyNext_range_end hh h1 (by simp) fun h' he=>q h' s.toks he
    | succ k=>rw [List.range_succ_eq_map] at hl;simp at hl
theorem rg62 {a:Int} (h:rgOk a = true):-(2 ^ 62) ≤ a∧a < 2 ^ 62:=by
  have h1:=of_decide_eq_true (Bool.and_eq_true_iff.mp h).1
  have h2:=of_decide_eq_true (Bool.and_eq_true_iff.mp h).2
  exact ⟨Int.le_trans (by decide) h1,Int.lt_of_le_of_lt h2 (by decide)⟩
theorem range_small {a b c:Int} (ha:rgOk a = true) (hb:rgOk b = true) (hc:c = 1 ∨ c = -1):Builtin.Range.small a b c = true:=by
  rcases hc with rfl | rfl
  · exact small_one (rg62 ha).1 (rg62 ha).2 (rg62 hb).1 (rg62 hb).2
  · exact small_down (rg62 ha).1 (rg62 ha).2 (rg62 hb).1 (rg62 hb).2
end
variable {G:Gl} {c:Cx}
noncomputable abbrev ItPost (y:At G c) (its:List Atom) (Q:Value→Shared→Prop):Prop:=∀ I h',ItIs y.S.inst y.g h' I its→(∀ b o,y.s.heap.get? b = some o→h'.get? b = some o)→y.s.heap.get? I = none→Q (.ref I) { y.s with heap:=h' }
theorem ItPost.push {y:At G c} {its:List Atom} {Q:Value→Shared→Prop} {o:Obj} (q:ItPost y its Q) (h:ItIs y.S.inst y.g (y.s.heap.push o) y.s.heap.objs.size its):Q (.ref y.s.heap.objs.size) { y.s with heap:=y.s.heap.push o }:=
  q _ _ h (fun _ _ e=>Heap.get?_push_of_some _ e) (get_size _)
theorem iterL_at (y:At G c) {l:List Atom} {a:Value} {Q:Value→Shared→Prop} (ra:y.rep (.list l) a) (q:ItPost y l Q):Wp y (pyIter a) Q:=by
  obtain ⟨b,vs,rfl,hg,hl,r1⟩:=ra
  refine wpAny_pyIter_list hl (q.push ?_)
  have hb:b ≠ y.s.heap.objs.size:=by obtain ⟨o,ho,_⟩:=hl;exact Nat.ne_of_lt (Heap.lt_size ho)
  exact .list b vs 0 _ ⟨_,Heap.get?_push_size _ rfl,rfl,rfl⟩ (hl.push _) hb hg r1
theorem iterS_at (y:At G c) {s:Str} {a:Value} {Q:Value→Shared→Prop} (ra:y.rep (as s) a) (q:ItPost y (s.cps.toList.map fun c=>.str (chr1 c)) Q):Wp y (pyIter a) Q:=by
  obtain ⟨t,rfl⟩:=ra
  refine wpAny_pyIter_strU (q.push ?_)
  unfold strIterType
  split
  · exact .ascii s t 0 ⟨_,Heap.get?_push_size _ rfl,rfl,rfl⟩
  · exact .wide s t 0 ⟨_,Heap.get?_push_size _ rfl,rfl,rfl⟩
theorem ItIs.cast {I:Option (Addr × Addr)} {g:Option Addr} {h:Heap} {a:Addr} {r r':List Atom} (x:ItIs I g h a r) (e:r = r'):ItIs I g h a r':=e▸x
theorem iterG_at (y:At G c) {lo hi st:Int} {l:List Int} {a:Value} {Q:Value→Shared→Prop} (hr:(rgOk lo && rgOk hi) = true) (e:rangeInts lo hi st = some l) (ra:y.rep (.rng lo hi st) a) (q:ItPost y (l.map .int) Q):Wp y (pyIter a) Q:=by
  obtain ⟨b,rfl,hg,hap,t,u,x,ho⟩:=ra
  rw [Bool.and_eq_true] at hr
  unfold rangeInts at e
  split at e
  · rename_i h1
    subst h1
    refine iff_el e fun _ e=>?_
    cases e
    refine wpAny_pyIter_range ho (range_small hr.1 hr.2 (.inl rfl)) (q.push ?_)
    rw [show Builtin.Range.rangeSize lo hi 1 = ((hi - lo).toNat:Nat) by rw [rangeSize_one];split<;>omega]
    refine (ItIs.range lo 1 (hi - lo).toNat (Heap.get?_push_size _ rfl)).cast ?_
    rw [List.map_map]
    exact List.map_congr_left fun j _=>congrArg (fun z=>Atom.int (lo+z)) (Int.one_mul _)
  · refine iff_el e fun h e=>?_
    cases e
    cases of_decide_eq_true (Bool.and_eq_true_iff.mp h).1
    refine wpAny_pyIter_range ho (range_small hr.1 hr.2 (.inr rfl)) (q.push ?_)
    rw [rangeSize_downNat]
    refine (ItIs.range lo (-1) (lo - hi).toNat (Heap.get?_push_size _ rfl)).cast ?_
    rw [List.map_map]
    exact List.map_congr_left fun j _=>congrArg Atom.int ((congrArg (lo+·) (Int.neg_one_mul _)).trans Int.sub_eq_add_neg.symm)
theorem iter_at (y:At G c) {v:AV} {its:List Atom} {a:Value} {Q:Value→Shared→Prop} (e:iterV v = some its) (ra:y.rep v a) (q:ItPost y its Q):Wp y (pyIter a) Q:=
  onL_el e (fun l e ra=>iff_el e fun _ e=>by cases e;exact iterL_at y ra q)
  (fun e ra=>onS_el e (fun s e ra=>iff_el e fun _ e=>by cases e;exact iterS_at y ra q)
  (fun e ra=>onG_el e (fun lo hi st e ra=>iff_el e fun h e=>map_el e fun l hl e=>by cases e;exact iterG_at y h hl ra q) (fun e _=>none_el e) ra) ra) ra
theorem iter_small {v:AV} {its:List Atom} (e:iterV v = some its):its.length ≤ 100000:=
  onL_el e (fun l e=>iff_el e fun h e=>by cases e;exact small_100 h)
  (fun e=>onS_el e (fun s e=>iff_el e fun h e=>by cases e;rw [List.length_map];exact small_100 h)
  (fun e=>onG_el e (fun lo hi st e=>iff_el e fun h e=>map_el e fun l hl e=>by
    cases e
    rw [List.length_map]
    unfold rangeInts at hl
    split at hl
    · exact iff_el hl fun h e=>by cases e;rw [List.length_map,List.length_range];exact small_100 h
    · exact iff_el hl fun h e=>by cases e;rw [List.length_map,List.length_range];exact small_100 (Bool.and_eq_true_iff.mp h).2) fun e=>none_el e))
end Mine
namespace Mine
structure Free (B:Heap) (fr:List Env) (I:Option (Addr × Addr)) (a:Addr):Prop where
  b:B.get? a = none
  f:a ∉ frA fr
  i:∀ x dx,I = some (x,dx)→a ≠ x∧a ≠ dx
theorem Free.of {B h:Heap} {fr:List Env} {I:Option (Addr × Addr)} {fl:FL} {a:Addr} (H:HInv B fr I fl h) (e:h.get? a = none):Free B fr I a:=by
  refine ⟨?_,fun m=>?_,fun x dx hI=>⟨?_,?_⟩⟩
  · cases q:B.get? a with
    | none=>rfl
    | some o=>have:=H.stays a o q;rw [e] at this;cases this
  · obtain ⟨_,o,ho,_⟩:=H.frs.mem m
    rw [e] at ho;cases ho
  · rintro rfl;have:=(H.inst a dx hI).obj;rw [e] at this;cases this
  · rintro rfl;obtain ⟨o,_,_,ho,_⟩:=(H.inst x a hI).dcl;rw [e] at ho;cases ho
theorem Free.dl {B:Heap} {fr:List Env} {I:Option (Addr × Addr)} {a:Addr} (F:Free B fr I a):a ∉ Mine.dl I:=fun m=>by
  obtain ⟨x,hI⟩:=mem_dl m
  exact (F.i x a hI).2 rfl
theorem HInv.but {B h h':Heap} {fr:List Env} {I:Option (Addr × Addr)} {fl:FL} {a:Addr} (H:HInv B fr I fl h) (F:Free B fr I a) (k:∀ b o,b ≠ a→h.get? b = some o→h'.get? b = some o):HInv B fr I fl h':=
  ⟨fun b o e=>k b o (fun q=>by rw [q,F.b] at e;cases e) (H.stays b o e),
   frs_keep (fun b o e hm=>⟨o.slots,k b o (fun q=>F.f (q▸hm)) e⟩) (fun _ h=>h) H.frs,
   fun x dx q=>(H.inst x dx q).keep (fun o=>k x o (Ne.symm (F.i x dx q).1)) (fun o=>k dx o (Ne.symm (F.i x dx q).2))⟩
section
variable {w:World} {B:Heap} {n:Nat} {S:Sit} {g:Option Addr} {σ:AS} {s:Shared} {E:Value→Shared→Prop}
theorem iter_self {A:Around} {I:Option (Addr × Addr)} {a:Addr} {r:List Atom} {Q:Value→Shared→Prop} (hh:A.handled = none) (h:ItIs I g s.heap a r) (q:Q (.ref a) s):wpAny (model pw w) A (pyIter (.ref a)) Q E s:=by
  cases h with
  | list ax vs i l h1 h2 h3 h4 h5=>exact (Walks.list hh a ax h3 vs).self i s Q E ⟨h1,h2⟩ q
  | ascii x t i h1=>exact (Walks.strAscii hh a x t).self i s Q E h1 q
  | wide x t i h1=>exact (Walks.strWide hh a x t).self i s Q E h1 q
  | range lo st k h1=>exact (Walks.range hh a lo st k).self 0 s Q E (by simpa using h1) q
noncomputable def clFold (env:Env):List (Str × NameKind)→List (Str × Addr)→List (Str × Addr)
  | [],acc=>acc
  | (x,k) :: r,acc=>if k == .free then clFold env r ((x,(env.cells.lookup x).getD 0) :: acc) else clFold env r acc
theorem closure_is {sc:Scope} {env:Env} (h:∀ x ∈ sc.names,x.2 = .free→(env.cells.lookup x.1).isSome = true):closureFor sc env = pure (clFold env sc.names []):=by
  unfold closureFor
  have:∀ (l:List (Str × NameKind)) (acc:List (Str × Addr)),(∀ x ∈ l,x.2 = .free→(env.cells.lookup x.1).isSome = true)→
      (forIn l acc fun (x:Str × NameKind) (cs:List (Str × Addr))=>(do
        if x.2 == .free then do
          let c ←cellOf env x.1
          pure (ForInStep.yield ((x.1,c) :: cs))
        else pure (ForInStep.yield cs):Sem (ForInStep (List (Str × Addr))))) = pure (clFold env l acc):=by
    intro l
    induction l with
    | nil=>intro acc _;rfl
    | cons x l ih=>
      intro acc hx
      obtain ⟨y,k⟩:=x
      rw [List.forIn_cons]
      unfold clFold
      by_cases hk:(k == NameKind.free) = true
      · have hs:=hx (y,k) (.head _) (beq_iff_eq.mp hk)
        obtain ⟨c,hc⟩:=Option.isSome_iff_exists.mp hs
        rw [if_pos hk]
        simp only [hk,if_true]
        have e:cellOf env y = pure c:=by unfold cellOf;rw [hc]
        rw [e]
        simp only [hc,Option.getD_some]
        exact ih _ fun z hz=>hx z (.tail _ hz)
      · rw [if_neg hk]
        simp only [hk,Bool.false_eq_true,if_false]
        exact ih _ fun z hz=>hx z (.tail _ hz)
  have e:=this sc.names [] h
  refine Eq.trans ?_ e
  refine (bind_pure (m:=Sem) _).trans ?_
  congr 1
theorem clFold_lookup {env:Env} {x:Str} {c:Addr} (hx:env.cells.lookup x = some c):∀ (l:List (Str × NameKind)) (acc:List (Str × Addr)),((∃ p ∈ l,p.1 = x∧p.2 = .free) ∨ acc.lookup x = some c)→(clFold env l acc).lookup x = some c
  | [],acc,h=>by
    rcases h with ⟨p,hp,_⟩ | h
    · cases hp
    · exact h
  | (y,k) :: r,acc,h=>by
    unfold clFold
    by_cases hk:(k == NameKind.free) = true
    · rw [if_pos hk]
      refine clFold_lookup hx r _ ?_
      by_cases hy:y = x
      · right;subst hy;simp [hx]
      · rcases h with ⟨p,hp,h1,h2⟩ | h
        · cases hp with
          | head=>exact absurd h1 hy
          | tail _ hp=>exact .inl ⟨p,hp,h1,h2⟩
        · right
          rw [List.lookup_cons,beq_eq_false_iff_ne.mpr (Ne.symm hy)]
          exact h
    · rw [if_neg hk]
      refine clFold_lookup hx r _ ?_
      rcases h with ⟨p,hp,h1,h2⟩ | h
      · cases hp with
        | head=>exact absurd (by have h3:k = .free:=h2;rw [h3];rfl) hk
        | tail _ hp=>exact .inl ⟨p,hp,h1,h2⟩
      · exact .inr h
theorem Kp.fresh {fr:List Env} {D:List Addr} {h0 h h':Heap} {a:Addr} (K:Kp fr D h0 h) (ha:h0.get? a = none) (k:∀ b o,b ≠ a→h.get? b = some o→h'.get? b = some o):Kp fr D h0 h':=
  ⟨fun b o e hd hf=>k b o (by rintro rfl;rw [ha] at e;cases e) (K.exact b o e hd hf),
   fun b o e hd=>let ⟨sl,e'⟩:=K.slots b o e hd;⟨sl,k b _ (by rintro rfl;rw [ha] at e;cases e) e'⟩⟩
end
noncomputable def compCx (c:Cx) (t:Str) (caps:List Nat) (sc:Scope):Cx:=
  ⟨t :: caps.map (fun i=>c.names.getD i Str.empty),sc.names.map fun p=>if (p.2 == .free && c.kinds.lookup p.1 == some .cell) then (p.1,.cell) else p⟩
noncomputable def capOk (c:Cx) (t:Str) (caps:List Nat) (sc:Scope) (i:Nat):Bool:=
  (c.names[i]?).any fun x=>sc.names.contains (x,.free) && ((compCx c t caps sc).kinds.lookup x == some .cell && c.kinds.lookup x == some .cell)
noncomputable def scOk (c:Cx) (t:Str) (caps:List Nat) (sc:Scope):Bool:=
  sc.kind == .function && (sc.names.lookup t == some .local && (sc.names.all (fun x=>x.2 != .cell && (x.2 != .local || sc.names.lookup x.1 == some .local) && (x.2 != .free || caps.any fun i=>c.names[i]? == some x.1 && c.kinds.lookup x.1 == some .cell)) &&
  (caps.all (capOk c t caps sc) && decide ((compCx c t caps sc).names.Nodup))))
structure ScOk (c:Cx) (t:Str) (caps:List Nat) (sc:Scope):Prop where
  kind:sc.kind = .function
  lt:sc.names.lookup t = some .local
  names:∀ x ∈ sc.names,x.2 ≠ .cell∧(x.2 = .local→sc.names.lookup x.1 = some .local)∧(x.2 = .free→∃ i ∈ caps,c.names[i]? = some x.1∧c.kinds.lookup x.1 = some .cell)
  cap:∀ i ∈ caps,∃ x,c.names[i]? = some x∧(x,NameKind.free) ∈ sc.names∧(compCx c t caps sc).kinds.lookup x = some .cell∧c.kinds.lookup x = some .cell
  nd:(compCx c t caps sc).names.Nodup
theorem scOk_is {c:Cx} {t:Str} {caps:List Nat} {sc:Scope} (h:scOk c t caps sc = true):ScOk c t caps sc:=by
  simp only [scOk,Bool.and_eq_true,List.all_eq_true,beq_iff_eq,decide_eq_true_eq,Bool.or_eq_true,bne_iff_ne,List.any_eq_true] at h
  obtain ⟨h1,h2,h3,h4,h5⟩:=h
  refine ⟨h1,h2,fun x hx=>?_,fun i hi=>?_,h5⟩
  · obtain ⟨⟨a,b⟩,d⟩:=h3 x hx
    exact ⟨a,fun e=>b.resolve_left fun n=>n e,fun e=>d.resolve_left fun n=>n e⟩
  · have:=h4 i hi
    unfold capOk at this
    cases hx:c.names[i]? with
    | none=>rw [hx] at this;cases this
    | some x=>
      rw [hx,Option.any_some,Bool.and_eq_true,Bool.and_eq_true,beq_iff_eq,beq_iff_eq,List.contains_iff_mem] at this
      exact ⟨x,rfl,this.1,this.2.1,this.2.2⟩
noncomputable def compSit (S:Sit) (c:Cx) (t:Str) (caps:List Nat) (sc:Scope) (C:Addr):Sit:=
  { S with env:=compEnvC sc (clFold S.env sc.names []) C S.env,names:=(compCx c t caps sc).names }
theorem kinds_relabel {c:Cx} {t:Str} {caps:List Nat} {sc:Scope} {S:Sit} (hc:Ctx c S) (hk:S.env.scope.kind = .function):(relabel sc S.env).names = (compCx c t caps sc).kinds:=by
  unfold relabel compCx
  refine List.map_congr_left fun x _=>?_
  simp only [Env.kindOf,hc.kinds,hk,beq_self_eq_true,Bool.and_true]
theorem capsOf_get {caps:List Nat} {σ:AS}:∀ {cs:List AV},capsOf caps σ = some cs→∀ {j:Nat} {v:AV},cs[j]? = some v→∃ i,caps[j]? = some i∧locGet σ i = some v:=by
  induction caps with
  | nil=>intro cs h j v e;cases h;cases e
  | cons i r ih=>
    intro cs h j v e
    refine bind_el h fun u hu h=>map_el h fun l hl h=>?_
    subst h
    cases j with
    | zero=>cases e;exact ⟨i,rfl,hu⟩
    | succ j=>exact ih hl e
theorem capsOf_len {caps:List Nat} {σ:AS}:∀ {cs:List AV},capsOf caps σ = some cs→cs.length = caps.length:=by
  induction caps with
  | nil=>intro cs h;cases h;rfl
  | cons i r ih=>intro cs h;exact bind_el h fun u hu h=>map_el h fun l hl h=>by subst h;exact congrArg (·+1) (ih hl)
variable {G:Gl} {c:Cx}
structure CF (G:Gl) (c:Cx) where
  z:At G c
  g0:z.g = none
  t:Str
  caps:List Nat
  sc:Scope
  ok:ScOk c t caps sc
  cs:List AV
  hcs:capsOf caps z.σ = some cs
  I:Addr
  D:Addr
  C:Addr
  fI:z.s.heap.get? I = none
  fD:z.s.heap.get? D = none
  fC:z.s.heap.get? C = none
  ID:I ≠ D
  IC:I ≠ C
  DC:D ≠ C
noncomputable abbrev CF.cx (K:CF G c):Cx:=compCx c K.t K.caps K.sc
noncomputable abbrev CF.S (K:CF G c):Sit:=compSit K.z.S c K.t K.caps K.sc K.C
structure LBase (K:CF G c) (acc:List Atom) (fl:FL) (s:Shared):Prop where
  ls:∃ ys,s.heap.IsList K.D ys∧Reps K.z.S.inst acc ys.toList
  h:HInv G.B K.z.S.fr K.z.S.inst fl s.heap
  kp:Kp K.z.S.fr (dl K.z.S.inst) K.z.s.heap s.heap
  ns:∃ m,s.heap.Ns K.C m
  gens:s.gens = #[]
  os:s.os = K.z.S.os
structure LI (K:CF G c) (rest acc:List Atom) (fl:FL) (s:Shared):Prop extends LBase K acc fl s where
  it:ItIs K.z.S.inst (some K.D) s.heap K.I rest
section
variable {K:CF G c} {rest acc:List Atom} {fl fl':FL} {s s':Shared} {h':Heap} {tk:Nat}
theorem CF.free (K:CF G c) {a:Addr} (h:K.z.s.heap.get? a = none):Free G.B K.z.S.fr K.z.S.inst a:=.of K.z.inv.toHInv h
theorem LBase.stepI (L:LBase K acc fl s) (hs:Heap.ExtBut K.I s.heap h'):LBase K acc fl { s with heap:=h',toks:=tk }:=by
  obtain ⟨ys,hl,hr⟩:=L.ls
  obtain ⟨m,hm⟩:=L.ns
  exact ⟨⟨ys,hl.extBut hs K.ID.symm,hr⟩,L.h.but (K.free K.fI) hs,L.kp.fresh K.fI hs,⟨m,hm.extBut hs K.IC.symm⟩,L.gens,L.os⟩
theorem LI.stepC (L:LI K rest acc fl s) (hs:Heap.ExtBut K.C s.heap h') (hn:∃ m,h'.Ns K.C m):LI K rest acc fl { s with heap:=h',toks:=tk }:=by
  obtain ⟨ys,hl,hr⟩:=L.ls
  obtain ⟨m,o2,es,ep,ho2,hd2,_⟩:=L.ns
  refine ⟨⟨⟨ys,hl.extBut hs K.DC,hr⟩,L.h.but (K.free K.fC) hs,L.kp.fresh K.fC hs,hn,L.gens,L.os⟩,L.it.keep (fun o e=>hs K.I o K.IC e) (fun b o e _ hd _=>⟨o.slots,hs b o ?_ e⟩) (.inl rfl)⟩
  rintro rfl
  obtain ⟨vs,k,hd⟩:=hd
  cases ho2.symm.trans e
  rw [hd2] at hd;cases hd
theorem LI.run (L:LI K rest acc fl s) (k:Kp K.z.S.fr (dl K.z.S.inst) s.heap s'.heap) (H:HInv G.B K.z.S.fr K.z.S.inst fl' s'.heap) (hg:s'.gens = #[]) (ho:s'.os = K.z.S.os):LI K rest acc fl' s':=by
  obtain ⟨ys,⟨o,ho',r⟩,hr⟩:=L.ls
  obtain ⟨m,hm⟩:=L.ns
  refine ⟨⟨⟨ys,⟨o,k.exact _ o ho' (K.free K.fD).dl (K.free K.fD).f,r⟩,hr⟩,H,L.kp.trans k,⟨m,ns_slots hm fun o e=>k.slots _ o e (K.free K.fC).dl⟩,hg,ho⟩,L.it.keep (fun o e=>k.exact _ o e (K.free K.fI).dl (K.free K.fI).f) (fun b o e _ hd _=>k.slots b o e (not_dl_data L.h e fun es ep q=>?_)) (.inl rfl)⟩
  obtain ⟨vs,m,hd⟩:=hd
  rw [q] at hd;cases hd
theorem LI.stepD {b:Atom} {x:Value} (L:LI K rest acc fl s) {ys:Array Value} (hr:Reps K.z.S.inst acc ys.toList) (hl:h'.IsList K.D (ys.push x)) (ra:RepA K.z.S.inst b x) (hs:Heap.SameBut K.D s.heap h'):LI K rest (acc ++ [b]) fl { s with heap:=h' }:=by
  obtain ⟨m,hm⟩:=L.ns
  have hE:=hs.extBut
  exact ⟨⟨⟨_,hl,by rw [Array.toList_push];exact hr.append (.cons ra .nil)⟩,L.h.but (K.free K.fD) hE,L.kp.fresh K.fD hE,⟨m,hm.extBut hE K.DC.symm⟩,L.gens,L.os⟩,L.it.keep (fun o e=>hE K.I o K.ID e) (fun b o e _ _ hgb=>⟨o.slots,hE b o (fun z=>hgb (by rw [z])) e⟩) (.inl rfl)⟩
theorem CF.kindOf (K:CF G c):K.S.env.kindOf K.t = some .local:=lookup_relabel_local K.ok.lt
theorem CF.good (K:CF G c):Good G.n G.B K.S:=
  have g:=K.z.good
  ⟨g.stack,g.handled,g.depth,g.units,K.ok.kind,g.globals,g.builtins,K.ok.nd,(K.free K.fC).b⟩
theorem CF.capd (K:CF G c) {j:Nat} {v:AV} (h:K.cs[j]? = some v):∃ x val,K.S.names[j+1]? = some x∧(∀ h',Kp K.z.S.fr (dl K.z.S.inst) K.z.s.heap h'→ReadsVar K.S.env h' x val)∧K.z.rep v val∧v.isDR = false:=by
  obtain ⟨i,hi,hv⟩:=capsOf_get K.hcs h
  obtain ⟨x,e1,hfree,k1,k2⟩:=K.ok.cap i (List.mem_of_getElem? hi)
  refine K.z.read e1 hv fun val e2 e3=>⟨x,val,?_,fun h' k=>?_,e3,K.z.inv.dr i v (locGet_is hv)⟩
  · show (K.t :: K.caps.map fun i=>c.names.getD i Str.empty)[j+1]? = some x
    rw [List.getElem?_cons_succ,List.getElem?_map,hi,Option.map_some,List.getD_eq_getElem?_getD,e1];rfl
  · rcases e2.kp K.z.inv.toHInv K.z.inv.ld k with ⟨hl,_⟩ | ⟨hl,b,hb,ho⟩
    · unfold Env.kindOf at hl
      rw [K.z.ctx.kinds,k2] at hl;cases hl
    · refine .inr ⟨?_,b,clFold_lookup hb _ _ (.inl ⟨_,hfree,rfl,rfl⟩),ho⟩
      show (relabel K.sc K.z.S.env).names.lookup x = some .cell
      rw [kinds_relabel (t:=K.t) (caps:=K.caps) K.z.ctx K.z.good.kind];exact k1
noncomputable def CF.σ (K:CF G c) (a:Atom) (fl:FL):AS:=⟨some (.at a) :: K.cs.map some,fl⟩
theorem map_some_get {α:Type} {l:List α} {j:Nat} {v:α} (h:(l.map some)[j]? = some (some v)):l[j]? = some v:=by
  rw [List.getElem?_map] at h
  exact map_el h fun u hu e=>by cases e;exact hu
theorem LI.inv (L:LI K rest acc fl s) {a:Atom} {v:Value} {m:Str→Option Value} (hn:s.heap.Ns K.C m) (hm:m K.t = some v) (ra:RepA K.z.S.inst a v):Inv G.w G.B K.S none (K.σ a fl) s:=
  { toHInv:=L.h
    loc:=⟨m,hn⟩
    vars:=fun j u hu=>match j,hu with
      | 0,hu=>⟨K.t,v,rfl,.inl ⟨K.kindOf,m,hn,hm⟩,by cases hu;exact ra⟩
      | j+1,hu=>let ⟨x,val,e1,e2,e3,_⟩:=K.capd (map_some_get hu);⟨x,val,e1,e2 _ L.kp,K.g0▸e3.kp K.z.inv.toHInv L.kp⟩
    dr:=fun j u hu=>match j,hu with
      | 0,hu=>by cases hu;rfl
      | j+1,hu=>let ⟨_,_,_,_,_,e4⟩:=K.capd (map_some_get hu);e4
    len:=by
      show (some (.at a) :: K.cs.map some).length = (K.t :: K.caps.map fun i=>c.names.getD i Str.empty).length
      rw [List.length_cons,List.length_cons,List.length_map,List.length_map,capsOf_len K.hcs]
    ld:=(K.free K.fC).dl
    gown:=fun _ e=>nomatch e
    gens:=L.gens
    os:=L.os }
noncomputable def LI.at (L:LI K rest acc fl s) (E:Value→Shared→Prop) {a:Atom} {v:Value} {m:Str→Option Value} (hn:s.heap.Ns K.C m) (hm:m K.t = some v) (ra:RepA K.z.S.inst a v):At G K.cx:=
  ⟨K.S,none,K.σ a fl,s,E,⟨rfl,kinds_relabel K.z.ctx K.z.good.kind⟩,K.good,L.inv hn hm ra⟩
end
end Mine
namespace Mine
variable {G:Gl} {c:Cx}
noncomputable abbrev ifsRun (ifs:List Expr) (env:Env):Sem Bool:=forIn ifs true fun cd r=>if r = true then do let ok ←isTrue cd env (eval cd env);pure (ForInStep.yield ok) else pure (ForInStep.yield r)
noncomputable def TC (G:Gl) (c:Cx) (ifs:List Expr) (d:AS→Option (Bool × FL)):Prop:=∀ (x:At G c) fl b (Q:Bool→Shared→Prop),d x.σ = some (b,fl)→(∀ r:Res x fl (ab b),Q b r.s)→Wp x (ifsRun ifs x.S.env) Q
theorem tc_nil:TC G c [] (fun σ=>some (true,σ.fl)):=fun x _ _ Q he q=>by cases he;exact wpAny_pure (q ⟨.bool true,x.s,x.inv,.refl ..,rfl⟩)
theorem tc_one {cd:Expr} {e:CE} (h:OK G c cd e):TC G c [cd] (fun σ=>ob (evE tabs G.Γ e σ) fun v fl=>(truth v).map fun b=>(b,fl)):=fun x _ b Q he q=>truth_el he fun b f e1 e2=>by
  cases e2
  unfold ifsRun
  rw [List.forIn_cons,if_pos rfl]
  exact wpAny_bind (wpAny_bind (h.te x _ _ _ e1 fun r=>wpAny_pure (wpAny_pure (q r))))
theorem otb_el {β:Type} {o:Option (Bool × FL)} {a b:FL→Option β} {r:β} {P:Prop} (h:otb o a b = some r) (q1:∀ fl,o = some (true,fl)→a fl = some r→P) (q2:∀ fl,o = some (false,fl)→b fl = some r→P):P:=by
  cases o with
  | none=>cases h
  | some p=>obtain ⟨v,fl⟩:=p;cases v with
    | true=>exact q1 fl rfl h
    | false=>exact q2 fl rfl h
structure PL (K:CF G c) (f:Atom→FL→Option (AV × FL)) (ct:Atom→FL→Option (Bool × FL)) (l:List Atom) (fl':FL) (rest acc l2:List Atom) (fl:FL) (s:Shared):Prop where
  run:evMapIf f ct rest fl = some (l2,fl')
  all:l = acc ++ l2
  at':LI K rest acc fl s
  len:acc.length+rest.length ≤ 100000
noncomputable abbrev PLn (K:CF G c) (f:Atom→FL→Option (AV × FL)) (ct:Atom→FL→Option (Bool × FL)) (l:List Atom) (fl':FL) (n:Nat) (s:Shared):Prop:=∃ rest acc l2 fl,PL K f ct l fl' rest acc l2 fl s∧n = rest.length+1
theorem len_shift {α:Type} {acc rest:List α} {a b:α} {n:Nat} (h:acc.length+(a :: rest).length ≤ n):(acc ++ [b]).length+rest.length ≤ n:=by
  rw [List.length_append,Nat.add_assoc,Nat.add_comm _ rest.length];exact h
theorem len_less {α:Type} {acc rest:List α} {a:α} {n:Nat} (h:acc.length+(a :: rest).length ≤ n):acc.length+rest.length ≤ n:=Nat.le_trans (Nat.add_le_add_left (Nat.le_succ _) _) h
theorem len_acc {α:Type} {acc rest:List α} {n:Nat} (h:acc.length+rest.length ≤ n):acc.length ≤ n:=Nat.le_trans (Nat.le_add_right ..) h
structure TG (G:Gl) (c:Cx) where
  K:CF G c
  ex:Expr
  ifs:List Expr
  d:Den
  dt:AS→Option (Bool × FL)
  hE:SE G K.cx ex d
  hT:TC G K.cx ifs dt
  px:Pos
  l:List Atom
  fl':FL
  E:Value→Shared→Prop
  R:Shared→Prop
  q:∀ s',LBase K l fl' s'→R s'
section
variable (T:TG G c)
noncomputable abbrev TG.wp {α:Type} (m:Sem α) (Q:α→Shared→Prop) (s:Shared):Prop:=wpAny (model pw G.w) T.K.z.S.A m Q T.E s
noncomputable def TG.I (n:Nat) (s:Shared):Prop:=PLn T.K (fun a fl=>T.d (T.K.σ a fl)) (fun a fl=>T.dt (T.K.σ a fl)) T.l T.fl' n s
noncomputable def TG.nx (n:Nat) (s:Shared):Prop:=∃ m,m < n∧T.I m s
noncomputable def TG.kA (n:Nat) (x:Value) (s:Shared):Prop:=T.wp (call (.builtin "list.append") [.ref T.K.D,x]) (fun _=>T.nx n) s
noncomputable def TG.kI (n:Nat) (ok:Bool) (s:Shared):Prop:=if ok = true then T.wp (eval T.ex T.K.S.env) (T.kA n) s else T.nx n s
noncomputable def TG.kV (n:Nat) (_:Unit) (s:Shared):Prop:=T.wp (ifsRun T.ifs T.K.S.env) (T.kI n) s
noncomputable def TG.kN (n:Nat) (r:Option Value) (s:Shared):Prop:=match r with
  | none=>T.R s
  | some v=>T.wp (assign (.Name T.K.t T.px) T.K.S.env v) (T.kV n) s
end
variable {T:TG G c}
theorem TG.app {rest acc:List Atom} {b:Atom} {a:Atom} {fl:FL} {l2:List Atom} {x:Value} {s:Shared} (L:LI T.K rest acc fl s) (ra:RepA T.K.z.S.inst b x) (he:evMapIf (fun a fl=>T.d (T.K.σ a fl)) (fun a fl=>T.dt (T.K.σ a fl)) rest fl = some (l2,T.fl')) (ha:T.l = acc ++ b :: l2) (hl:acc.length+(a :: rest).length ≤ 100000):T.kA ((a :: rest).length+1) x s:=by
  obtain ⟨ys,hL,hr⟩:=L.ls
  refine wpAny_list_append (hsz:=by rw [←Array.length_toList,hr.len];exact Nat.le_trans (len_acc hl) (by decide)) hL fun h₅ hl₅ hs₅=>?_
  exact ⟨rest.length+1,Nat.lt_succ_self _,rest,acc ++ [b],l2,fl,⟨he,ha.trans (List.append_cons ..),L.stepD hr hl₅ ra hs₅,len_shift hl⟩,rfl⟩
theorem TG.test {rest acc:List Atom} {a:Atom} {fl:FL} {l2:List Atom} {m:Str→Option Value} {v:Value} {s:Shared} (L:LI T.K rest acc fl s) (hn:s.heap.Ns T.K.C m) (hm:m T.K.t = some v) (ra:RepA T.K.z.S.inst a v) (he:evMapIf (fun a fl=>T.d (T.K.σ a fl)) (fun a fl=>T.dt (T.K.σ a fl)) (a :: rest) fl = some (l2,T.fl')) (ha:T.l = acc ++ l2) (hl:acc.length+(a :: rest).length ≤ 100000):T.kV ((a :: rest).length+1) () s:=
  otb_el he (fun fl₂ e1 he=>T.hT (L.at T.E hn hm ra) fl₂ true _ e1 fun r=>obA_el he fun b fl₃ e2 he=>map_el he fun z hz he=>T.hE r.at fl₃ (.at b) _ e2 fun r2=>
      TG.app (L.run (r.kp.trans r2.kp) r2.inv.toHInv r2.inv.gens r2.inv.os) r2.rep (l2:=z.1) (hz.trans (congrArg some (Prod.ext rfl (Prod.mk.inj he).2))) (ha.trans (congrArg (acc ++ ·) (Prod.mk.inj he).1.symm)) hl)
    fun fl₂ e1 he=>T.hT (L.at T.E hn hm ra) fl₂ false _ e1 fun r=>⟨rest.length+1,Nat.lt_succ_self _,rest,acc,l2,fl₂,⟨he,ha,L.run r.kp r.inv.toHInv r.inv.gens r.inv.os,len_less hl⟩,rfl⟩
theorem TG.turn (T:TG G c) (n:Nat) (s:Shared) (h:T.I n s):T.wp (pyNext (.ref T.K.I)) (T.kN n) s:=by
  obtain ⟨rest,acc,l2,fl,P,rfl⟩:=h
  cases rest with
  | nil=>
    have e:=P.run
    cases e
    exact next_none T.K.z.good.handled P.at'.it fun h' tk hs=>T.q _ ((P.all.trans (List.append_nil _)).symm▸P.at'.toLBase.stepI hs)
  | cons a rest=>
    refine next_some P.at'.it fun v h' tk ra it hs=>?_
    have L1:LI T.K rest acc fl { s with heap:=h',toks:=tk }:=⟨P.at'.toLBase.stepI hs.extBut,it⟩
    obtain ⟨m,hm⟩:=L1.ns
    exact wpAny_assign_Name (wpAny_storeName_local (m:=m) T.K.kindOf hm (fun h2 hn hs2=>TG.test (L1.stepC (tk:=tk+1) hs2.extBut ⟨_,hn⟩) hn (if_pos rfl) ra P.run P.all P.len) (by show (T.K.sc.kind == .class || (T.K.sc.kind == .module && _)) = false;rw [T.K.ok.kind];rfl))
end Mine
namespace Mine
variable {G:Gl} {c:Cx}
theorem comp_go (K:CF G c) {ex it:Expr} {ifs:List Expr} {d:Den} {dt:AS→Option (Bool × FL)} (h1:SE G K.cx ex d) (h2:TC G K.cx ifs dt) {px pos:Pos} {l its:List Atom} {fl':FL} {RR:Result→Shared→Prop} (q:∀ s',LBase K l fl' s'→RR (.ok .next) s') {n:Nat} {s:Shared}
    (h:PLn K (fun a fl=>d (K.σ a fl)) (fun a fl=>dt (K.σ a fl)) l fl' n s) (hit:ItIs K.z.S.inst (some K.D) s.heap K.I its) :
    codeAny (model pw G.w) K.z.S.A (.compStart (.ListComp ex [⟨.Name K.t px,it,ifs,0⟩] K.sc pos) 0 (.ref K.I) (.ref K.D) K.S.env) RR s:=
  have lp:codeAny (model pw G.w) K.z.S.A (.compLoop (.ListComp ex [⟨.Name K.t px,it,ifs,0⟩] K.sc pos) 0 (.ref K.I) (.ref K.D) K.S.env) RR s:=
    codeAny_compLoop_tests (PLn K (fun a fl=>d (K.σ a fl)) (fun a fl=>dt (K.σ a fl)) l fl') (fun n s h=>TG.turn ⟨K,ex,ifs,d,dt,h1,h2,px,l,fl',_,_,q⟩ n s h) n h
  codeAny_compStart_list lp (iter_self K.z.good.handled hit lp)
theorem capsOf_loc {σ:AS} {fl:FL} (caps:List Nat):capsOf caps ⟨σ.loc,fl⟩ = capsOf caps σ:=by
  induction caps with
  | nil=>rfl
  | cons i r ih=>unfold capsOf;rw [ih];rfl
structure CL (y:At G c) (C:Addr) (s':Shared):Prop where
  ns:∃ m,s'.heap.Ns C m
  ne:C ≠ y.S.env.locals
  free:Free G.B y.S.fr y.S.inst C
  new:y.s.heap.get? C = none
noncomputable def usePost (y:At G c) (use:Option (Value→Sem Unit)) (Q:Value→Shared→Prop) (val:Value) (s':Shared):Prop:=match use with
  | none=>Q val s'
  | some u=>∀ C,CL y C s'→wpAny (model pw G.w) y.S.A (u val) (fun _ s''=>(∃ m,s''.heap.Ns C m)∧∀ h',Heap.SameBut C s''.heap h'→Q .none { s'' with heap:=h' }) y.E s'
theorem ex_kp {w:World} {B:Heap} {S:Sit} {g:Option Addr} {σ:AS} {h:Heap} {s':Shared} (V':Inv w B S g σ s') (k:Kp S.fr (dl S.inst) h s'.heap) {b:Addr} (e:s'.heap.get? b = none):h.get? b = none:=by
  cases hb:h.get? b with
  | none=>rfl
  | some o=>
    by_cases hm:b ∈ dl S.inst
    · obtain ⟨x,hI⟩:=mem_dl hm
      obtain ⟨o,_,_,ho,_⟩:=(V'.inst x b hI).dcl
      rw [e] at ho;cases ho
    · obtain ⟨sl,e'⟩:=k.slots b o hb hm
      rw [e] at e';cases e'
theorem At.ne_loc (y:At G c) {C:Addr} (h:y.s.heap.get? C = none):C ≠ y.S.env.locals:=by
  rintro rfl
  obtain ⟨m,o,_,_,ho,_⟩:=y.inv.loc
  rw [h] at ho;cases ho
theorem comp_end (y:At G c) {f:FL} {x:AV} (r:Res y f x) {use:Option (Value→Sem Unit)} {Q:Value→Shared→Prop} (K:CF G c) (hz:K.z = r.at) {l:List Atom} {fl':FL} (q:∀ r:Res y fl' (.list l),usePost y use Q r.val r.s) {s':Shared} (L:LBase K l fl' s') :
    compPost (model pw G.w) y.S.A y.E use Q (.ref K.D) K.C (.ok .next) s':=by
  obtain ⟨z,g0,t,caps,sc,ok,cs,hcs,I,D,C,fI,fD,fC,ID,IC,DC⟩:=K
  cases hz
  obtain ⟨⟨ys,hl,hr⟩,H,kp,⟨m,hn⟩,hg,ho⟩:=L
  have hgD:y.g ≠ some D:=fresh_g r.inv fD
  have FC:Free G.B y.S.fr y.S.inst C:=.of r.inv.toHInv fC
  cases use with
  | none=>
    refine ⟨m,hn,fun h'' hs=>?_⟩
    have hsE:=hs.extBut
    have k2:=kp.fresh fC hsE
    exact q ⟨_,{ s' with heap:=h'' },r.inv.kp (s':={ s' with heap:=h'' }) (H.but FC hsE) k2 hg ho,r.kp.trans k2,D,ys,rfl,hgD,hl.extBut hsE DC,hr⟩
  | some u=>
    refine wpAny_mono (q ⟨.ref D,s',r.inv.kp H kp hg ho,r.kp.trans kp,D,ys,rfl,hgD,hl,hr⟩ C ⟨⟨m,hn⟩,r.at.ne_loc fC,FC,ex_kp r.inv r.kp fC⟩) (fun _ s'' hh=>?_) fun _ _ e=>e
    obtain ⟨⟨m,hm⟩,hh⟩:=hh
    exact ⟨m,hm,hh⟩
theorem closure_at (y:At G c) {t:Str} {caps:List Nat} {sc:Scope} (ok:ScOk c t caps sc) {cs:List AV} (hcs:capsOf caps y.σ = some cs):closureFor sc y.S.env = pure (clFold y.S.env sc.names []):=by
  refine closure_is fun x hx hf=>?_
  obtain ⟨i,hi,h3,h4⟩:=(ok.names x hx).2.2 hf
  obtain ⟨j,hj⟩:=List.getElem?_of_mem hi
  obtain ⟨i',hi',hli⟩:=capsOf_get hcs (List.getElem?_eq_getElem (by rw [capsOf_len hcs];exact (List.getElem?_eq_some_iff.mp hj).1))
  cases hj.symm.trans hi'
  refine y.read h3 hli fun val e2 e3=>?_
  rcases e2 with ⟨hk,_⟩ | ⟨hk,b,hb,_⟩
  · unfold Env.kindOf at hk
    rw [y.ctx.kinds,h4] at hk;cases hk
  · rw [hb];rfl
theorem notSet_folded {it:Expr} {env:Env} (h:notSet it = true) (x:Value):foldedSetIterable it env x = pure x:=by
  cases it<;>first | rfl | cases h
theorem comp_start (y:At G c) {f:FL} {x:AV} (r:Res y f x) (hg:y.g = none) {t:Str} {px pos:Pos} {caps:List Nat} {sc:Scope} (ok:ScOk c t caps sc) {cs:List AV} (hcs:capsOf caps y.σ = some cs) {ifs:List Expr} {ex it:Expr} {d:Den} {dt:AS→Option (Bool × FL)}
    (hE:SE G (compCx c t caps sc) ex d) (hT:TC G (compCx c t caps sc) ifs dt) {use:Option (Value→Sem Unit)} {Q:Value→Shared→Prop} {its l:List Atom} {fl':FL} (hsm:its.length ≤ 100000)
    (he:evMapIf (fun a fl=>d ⟨some (.at a) :: cs.map some,fl⟩) (fun a fl=>dt ⟨some (.at a) :: cs.map some,fl⟩) its f = some (l,fl')) (q:∀ r:Res y fl' (.list l),usePost y use Q r.val r.s)
    {I:Addr} {h':Heap} (hit:ItIs y.S.inst y.g h' I its) (hk:∀ b o,r.s.heap.get? b = some o→h'.get? b = some o) (hfr:r.s.heap.get? I = none) :
    wpAny (model pw G.w) y.S.A (newList []) (fun acc s₃=>wpAny (model pw G.w) y.S.A (newFunctionEnv sc y.S.env.globals (clFold y.S.env sc.names []) [] y.S.env.qual none .none (some y.S.env)) (fun cenv s₄=>
      codeAny (model pw G.w) y.S.A (.compStart (.ListComp ex [⟨.Name t px,it,ifs,0⟩] sc pos) 0 (.ref I) acc { cenv with scope:=relabel sc y.S.env }) (compPost (model pw G.w) y.S.A y.E use Q acc cenv.locals) s₄) y.E s₃) y.E { r.s with heap:=h' }:=by
  refine wpAny_newObj_type (wpAny_newFunctionEnv (fun x hx=>(ok.names x hx).1) (fun _ h=>nomatch h) (fun h₁ hns₁ hsb₁=>?_) ok.kind)
  dsimp only at hns₁ hsb₁ ⊢
  generalize hH2:h'.push { cls:=.type "list",dict:=none,data:=.seq ([]:List Value).toArray } = H2 at hns₁ hsb₁ ⊢
  have hC:H2.objs.size = h'.objs.size+1:=by rw [←hH2,Heap.size_push]
  have hDC:h'.objs.size ≠ H2.objs.size:=by rw [hC];exact Nat.ne_of_lt (Nat.lt_succ_self _)
  have sD:h'.get? h'.objs.size = none:=get_size _
  have sC:h'.get? H2.objs.size = none:=Heap.get?_none_of_le (by rw [hC];exact Nat.le_succ _)
  have fresh0:∀ a,h'.get? a = none→r.s.heap.get? a = none:=fun a e=>by
    cases h:r.s.heap.get? a with
    | none=>rfl
    | some o=>have:=hk a o h;rw [e] at this;cases this
  have hin:∀ a,h'.get? a = none→I ≠ a:=fun a e=>by
    rintro rfl
    cases hit with
    | list ax vs i l h1=>obtain ⟨o,ho,_⟩:=h1;rw [e] at ho;cases ho
    | ascii x t i h1=>obtain ⟨o,ho,_⟩:=h1;rw [e] at ho;cases ho
    | wide x t i h1=>obtain ⟨o,ho,_⟩:=h1;rw [e] at ho;cases ho
    | range lo st k h1=>cases e.symm.trans h1
  let K:CF G c:=⟨r.at,hg,t,caps,sc,ok,cs,(capsOf_loc caps).trans hcs,I,h'.objs.size,H2.objs.size,hfr,fresh0 _ sD,fresh0 _ sC,hin _ sD,hin _ sC,hDC⟩
  have old:∀ b o,h'.get? b = some o→h₁.get? b = some o:=fun b o e=>hsb₁.extBut b o (by rintro rfl;rw [sC] at e;cases e) (Heap.get?_push_of_some _ (hH2▸Heap.get?_push_of_some _ e))
  have old0:∀ b o,r.s.heap.get? b = some o→h₁.get? b = some o:=fun b o e=>old b o (hk b o e)
  have hitK:ItIs y.S.inst (some h'.objs.size) h₁ I its:=hit.keep (fun o=>old I o) (fun b o e _ _ _=>⟨o.slots,old b o e⟩) (.inr ⟨_,rfl,sD⟩)
  have hacc:h₁.IsList h'.objs.size #[]:=⟨_,hsb₁.extBut _ _ hDC (Heap.get?_push_of_some _ (by rw [←hH2];exact Heap.get?_push_size _ rfl)),rfl,0,rfl⟩
  have L:LI K its [] f { r.s with heap:=h₁,toks:=r.s.toks+([]:List (Str × Value)).length }:=⟨⟨⟨#[],hacc,.nil⟩,r.inv.toHInv.keep old0,.of_keep old0,⟨_,hns₁⟩,r.inv.gens,r.inv.os⟩,hitK⟩
  exact comp_go K hE hT (fun s' L=>comp_end y r K rfl q L) (n:=its.length+1) ⟨its,[],l,f,⟨he,rfl,L,(Nat.zero_add _).symm▸hsm⟩,rfl⟩ hitK
theorem comp_at (y:At G c) {t:Str} {px pos:Pos} {caps:List Nat} {sc:Scope} {ifs:List Expr} {ex it:Expr} {src:CE} {d:Den} {dt:AS→Option (Bool × FL)} {use:Option (Value→Sem Unit)} {Q:Value→Shared→Prop} {v:AV} {fl:FL}
    (h:OK G c it src) (hsc:scOk c t caps sc = true) (hns:notSet it = true) (hE:SE G (compCx c t caps sc) ex d) (hT:TC G (compCx c t caps sc) ifs dt)
    (he:(if hasOwn y.σ then none else ob (evE tabs G.Γ src y.σ) fun x fl=>(iterV x).bind fun its=>(capsOf caps y.σ).bind fun cs=>(evMapIf (fun a fl=>d ⟨some (.at a) :: cs.map some,fl⟩) (fun a fl=>dt ⟨some (.at a) :: cs.map some,fl⟩) its fl).map fun r=>(AV.list r.1,r.2)) = some (v,fl))
    (q:∀ r:Res y fl v,usePost y use Q r.val r.s) :
    Wp y (comprehension (.ListComp ex [⟨.Name t px,it,ifs,0⟩] sc pos) sc y.S.env (firstIterPos [⟨.Name t px,it,ifs,0⟩] pos) (newList []) false (eval it y.S.env) use) Q:=by
  have ok:=scOk_is hsc
  refine call_el (a:=true) he fun _ ho he=>ob_el he fun x f e1 he=>bind_el he fun its hits he=>bind_el he fun cs hcs he=>map_el he fun z hz he=>?_
  cases he
  refine wpAny_comprehension_free rfl (notSet_folded hns) (closure_at y ok hcs) ok.kind (fun x hx=>(ok.names x hx).2.1) ?_
  exact h.se y f x _ e1 fun r=>iter_at r.at hits r.rep fun I h' hit hk hfr=>comp_start y r (gnone y.inv ho) ok hcs hE hT (iter_small hits) hz q hit hk hfr
theorem ok_comp {t:Str} {px pos:Pos} {caps:List Nat} {sc:Scope} {ex it:Expr} {src elt:CE} (h:OK G c it src) (hsc:scOk c t caps sc = true) (hns:notSet it = true) (hE:OK G (compCx c t caps sc) ex elt):OK G c (.ListComp ex [⟨.Name t px,it,[],0⟩] sc pos) (.comp elt src caps):=
  .plain rfl fun y _ _ _ he q=>(eval_ListComp ..).symm▸comp_at (use:=none) y h hsc hns hE.se tc_nil he q
theorem ok_compIf {t:Str} {px pos:Pos} {caps:List Nat} {sc:Scope} {ex it cd:Expr} {src elt cond:CE} (h:OK G c it src) (hsc:scOk c t caps sc = true) (hns:notSet it = true) (hE:OK G (compCx c t caps sc) ex elt) (hC:OK G (compCx c t caps sc) cd cond):OK G c (.ListComp ex [⟨.Name t px,it,[cd],0⟩] sc pos) (.compIf elt src cond caps):=
  .plain rfl fun y _ _ _ he q=>(eval_ListComp ..).symm▸comp_at (use:=none) y h hsc hns hE.se (tc_one hC) he q
end Mine
namespace Mine
noncomputable def nmE (e:Expr):Option (Str × Pos):=match e with
  | .Name x p=>some (x,p)
  | _=>none
theorem nmE_ok (e:Expr):(nmE e).elim True fun z=>e = .Name z.1 z.2:=by cases e<;>first | rfl | trivial
noncomputable def atE (e:Expr):Option (Expr × Str × Pos):=match e with
  | .Attribute o a p=>some (o,a,p)
  | _=>none
theorem atE_ok (e:Expr):(atE e).elim True fun z=>e = .Attribute z.1 z.2.1 z.2.2:=by cases e<;>first | rfl | trivial
noncomputable def slE (e:Expr):Option (Option Expr × Option Expr × Option Expr × Pos):=match e with
  | .Slice a b d p=>some (a,b,d,p)
  | _=>none
theorem slE_ok (e:Expr):(slE e).elim True fun z=>e = .Slice z.1 z.2.1 z.2.2.1 z.2.2.2:=by cases e<;>first | rfl | trivial
noncomputable def intK (k:Const):Option Int:=match k with
  | .int s=>some s
  | _=>none
theorem intK_ok (k:Const):(intK k).elim True fun z=>k = .int z:=by cases k<;>first | rfl | trivial
noncomputable def bopOf (o:Operator):Option Bop:=match o with
  | .Add=>some .add
  | .Sub=>some .sub
  | .Mod=>some .mod
  | .RShift=>some .shr
  | _=>none
theorem bopOf_ok (o:Operator):(bopOf o).elim True fun z=>o = opOf z:=by cases o<;>first | rfl | trivial
noncomputable def copIn (o:CmpOp):Option Cop:=match o with
  | .Lt=>some .lt
  | .LtE=>some .le
  | .Gt=>some .gt
  | .GtE=>some .ge
  | .Eq=>some .eq
  | .NotEq=>some .ne
  | .In=>some .isin
  | .NotIn=>some .notin
  | _=>none
theorem copIn_ok (o:CmpOp):(copIn o).elim True fun z=>o = copOf z:=by cases o<;>first | rfl | trivial
section
variable {α:Type}
noncomputable def one (l:List α):Option α:=match l with
  | [x]=>some x
  | _=>none
noncomputable def two (l:List α):Option (α × α):=match l with
  | [x,y]=>some (x,y)
  | _=>none
theorem one_el {l:List α} {x:α} (h:one l = some x):l = [x]:=by
  match l with
  | []=>cases h
  | [y]=>cases h;rfl
  | _ :: _ :: _=>cases h
theorem two_el {l:List α} {x:α × α} (h:two l = some x):l = [x.1,x.2]:=by
  match l with
  | []=>cases h
  | [_]=>cases h
  | [_,_]=>cases h;rfl
  | _ :: _ :: _ :: _=>cases h
end
noncomputable def genE (l:List Comprehension):Option (Str × Pos × Expr × List Expr):=(one l).bind fun g=>(nmE g.target).bind fun z=>iff (decide (g.is_async = 0)) (some (z.1,z.2,g.iter,g.ifs))
theorem genE_el {l:List Comprehension} {z:Str × Pos × Expr × List Expr} (h:genE l = some z):l = [⟨.Name z.1 z.2.1,z.2.2.1,z.2.2.2,0⟩]:=
  bind_el h fun g hg h=>bind_el h fun w hw h=>iff_el h fun ha h=>by
    obtain ⟨t,it,ifs,a⟩:=g
    cases of_decide_eq_true ha
    cases h
    have ht:=view_el (nmE_ok _) hw
    change t = _ at ht
    rw [one_el hg,ht];rfl
noncomputable def guardE (b:Bool) (a:CE):CE:=match b with
  | true=>a
  | false=>bad
noncomputable def selE (b:Bool) (a a':CE):CE:=match b with
  | true=>a
  | false=>a'
section
variable {α:Type}
noncomputable def optE (o:Option α) (f:α→CE):CE:=match o with
  | some x=>f x
  | none=>bad
noncomputable def sumE (o:Option α) (f:α→CE) (b:CE):CE:=match o with
  | some x=>f x
  | none=>b
variable {G:Gl} {c:Cx} {ex:Expr} {a a':CE}
theorem ok_guard {b:Bool} (h:b = true→OK G c ex a):OK G c ex (guardE b a):=by
  cases b with
  | true=>exact h rfl
  | false=>exact ok_bad
theorem ok_sel {b:Bool} (h:b = true→OK G c ex a) (h':OK G c ex a'):OK G c ex (selE b a a'):=by
  cases b with
  | true=>exact h rfl
  | false=>exact h'
theorem ok_opt {o:Option α} {f:α→CE} (h:∀ x,o = some x→OK G c ex (f x)):OK G c ex (optE o f):=by
  cases o with
  | some x=>exact h x rfl
  | none=>exact ok_bad
theorem ok_sum {o:Option α} {f:α→CE} (h:∀ x,o = some x→OK G c ex (f x)) (h':OK G c ex a):OK G c ex (sumE o f a):=by
  cases o with
  | some x=>exact h x rfl
  | none=>exact h'
end
section
variable (rec:Cx→Expr→CE) (c:Cx)
noncomputable def toA:List Expr→CA
  | []=>.nil
  | x :: r=>.cons (rec c x) (toA r)
noncomputable def notDbg (x:Str):Bool:=!(x == sName "__debug__")
noncomputable def toName (x:Str):CE:=guardE (notDbg x) (sumE (posOf x c.names) .var (guardE (isGl c x) (selE (x == sName "_law_signs") (.glob (sName "_law_signs")) (guardE (x == sName "_law_vowels") (.glob (sName "_law_vowels"))))))
noncomputable def toConst (k:Const):CE:=match k with
  | .int m=>.int m
  | .str s=>.str s
  | .bool b=>.bool b
  | _=>bad
noncomputable def toUn (o:UnaryOp) (e:Expr):CE:=match o with
  | .Not=>.not (rec c e)
  | .USub=>optE (conK e) fun k=>optE (intK k.1) .neg
  | _=>bad
noncomputable def toBool (o:BoolOp) (xs:List Expr):CE:=match o with
  | .And=>.and (toA rec c xs)
  | .Or=>.or (toA rec c xs)
noncomputable def toAttr (o:Expr) (a:Str):CE:=sumE (nmE o) (fun z=>guardE (notDbg z.1) (sumE (posOf z.1 c.names) (fun i=>match i with
    | 0=>optE (posOf a fnames) .fld
    | i+1=>.amo (.var (i+1)) a) (guardE (isGl c z.1 && z.1 == sName "DutchPorterStemmer") (.cattr a)))) (guardE (notCall o) (.amo (rec c o) a))
noncomputable def toSl (x:Expr) (lo hi st:Option Expr):CE:=match lo,hi,st with
  | none,some h,none=>.sliceTo (rec c x) (rec c h)
  | some l,none,none=>.sliceFrom (rec c x) (rec c l)
  | some l,some h,none=>.slice (rec c x) (rec c l) (rec c h)
  | _,_,_=>bad
noncomputable def toSub (x y:Expr):CE:=sumE (slE y) (fun s=>toSl rec c x s.1 s.2.1 s.2.2.1) (.idx (rec c x) (rec c y))
noncomputable def toCallN (x:Str) (xs:List Expr):CE:=guardE (isGl c x)
  (selE (x == sName "len") (optE (one xs) fun a=>.len (rec c a))
  (selE (x == sName "ord") (optE (one xs) fun a=>.ord (rec c a))
  (selE (x == sName "min") (optE (two xs) fun z=>.min (rec c z.1) (rec c z.2))
  (selE (x == sName "max") (optE (two xs) fun z=>.max (rec c z.1) (rec c z.2))
  (selE (x == sName "range") (.range (toA rec c xs))
  (optE (posOf x fnIdx) fun f=>guardE (decide (25 ≤ f)) (.callG f (toA rec c xs))))))))
noncomputable def toCallM (o:Expr) (nm:Str) (xs:List Expr):CE:=
  selE (nm == sName "endswith") (guardE (notCall o) (optE (one xs) fun b=>.endswith (rec c o) (rec c b)))
  (selE (nm == sName "join") (optE (conS o) fun k=>guardE (k.1 == Str.empty) (optE (one xs) fun b=>.join (rec c b)))
  (optE (nmE o) fun z=>guardE (notDbg z.1) (optE (posOf z.1 c.names) fun i=>optE (posOf nm fnIdx) fun f=>guardE (decide (f < 25) && decide (xs.length < 29)) (.callM i f (toA rec c xs)))))
noncomputable def toCall (f:Expr) (xs:List Expr) (kws:List Keyword) (p:Pos):CE:=guardE (kws.isEmpty && xs.all notStar)
  (sumE (nmE f) (fun z=>toCallN rec c z.1 xs) (optE (atE f) fun a=>guardE (a.2.2.endLine == p.line) (toCallM rec c a.1 a.2.1 xs)))
noncomputable def capsIn (sc:Scope):List Nat:=sc.names.filterMap fun p=>if p.2 == .free then posOf p.1 c.names else none
noncomputable def toComp (ex:Expr) (gens:List Comprehension) (sc:Scope):CE:=optE (genE gens) fun z=>guardE (scOk c z.1 (capsIn c sc) sc && notSet z.2.2.1)
  (match z.2.2.2 with
    | []=>.comp (rec (compCx c z.1 (capsIn c sc) sc) ex) (rec c z.2.2.1) (capsIn c sc)
    | [cd]=>.compIf (rec (compCx c z.1 (capsIn c sc) sc) ex) (rec c z.2.2.1) (rec (compCx c z.1 (capsIn c sc) sc) cd) (capsIn c sc)
    | _=>bad)
noncomputable def stepE (e:Expr):CE:=match e with
  | .Name x _=>toName c x
  | .Constant k _ _=>toConst k
  | .UnaryOp o a _=>toUn rec c o a
  | .BoolOp o xs _=>toBool rec c o xs
  | .BinOp l o r _=>optE (bopOf o) fun o=>.bin o (rec c l) (rec c r)
  | .Compare l os rs _=>optE (one os) fun o=>optE (copIn o) fun o=>optE (one rs) fun r=>guardE (!behindInMarks (copOf o) r) (.cmp o (rec c l) (rec c r))
  | .IfExp t a b _=>.ite (rec c t) (rec c a) (rec c b)
  | .Attribute o a _=>toAttr rec c o a
  | .Subscript x y _=>toSub rec c x y
  | .Call f xs kws p=>toCall rec c f xs kws p
  | .List xs _=>guardE (xs.all notStar) (.list (toA rec c xs))
  | .Tuple xs _ _=>guardE (xs.all notStar) (.tup (toA rec c xs))
  | .Dict ks vs _=>optE (isPairs ks vs) fun l=>guardE (dictOk l) (.dict l)
  | .ListComp ex gens sc _=>toComp rec c ex gens sc
  | _=>bad
end
noncomputable def toE:Nat→Cx→Expr→CE
  | 0,_,_=>bad
  | n+1,c,e=>stepE (toE n) c e
section
variable {G:Gl} {rec:Cx→Expr→CE} {c:Cx}
theorem dbg_ne {x:Str} (h:notDbg x = true):x ≠ sName "__debug__":=fun e=>by rw [e] at h;exact absurd h (by decide)
theorem and_l {a b:Bool} (h:(a && b) = true):a = true:=(Bool.and_eq_true_iff.mp h).1
theorem and_r {a b:Bool} (h:(a && b) = true):b = true:=(Bool.and_eq_true_iff.mp h).2
variable (hr:∀ c e,OK G c e (rec c e))
include hr
theorem sa_toA {xs:List Expr} (h:xs.all notStar = true):SA G c xs (evA tabs G.Γ (toA rec c xs)):=by
  induction xs with
  | nil=>exact sa_nil
  | cons x r ih=>rw [List.all_cons] at h;exact sa_cons (hr c x) (ih (and_r h)) (and_l h)
theorem ok_toAnd (xs:List Expr):∀ x,LB .And G c (x :: xs) (evAnd tabs G.Γ (toA rec c (x :: xs))):=by
  induction xs with
  | nil=>exact fun x=>and_one (hr c x)
  | cons y r ih=>exact fun x=>and_cons (hr c x) (ih y)
theorem ok_toOr (xs:List Expr):∀ x,LB .Or G c (x :: xs) (evOr tabs G.Γ (toA rec c (x :: xs))):=by
  induction xs with
  | nil=>exact fun x=>or_one (hr c x)
  | cons y r ih=>exact fun x=>or_cons (hr c x) (ih y)
theorem ok_toBool (o:BoolOp) (xs:List Expr) (p:Pos):OK G c (.BoolOp o xs p) (toBool rec c o xs):=by
  cases o<;>cases xs
  · exact .bad fun _=>rfl
  · exact ok_and (ok_toAnd hr _ _)
  · exact .bad fun _=>rfl
  · exact ok_or (ok_toOr hr _ _)
omit hr in
theorem ok_toName (x:Str) (p:Pos):OK G c (.Name x p) (toName c x):=
  ok_guard fun hd=>ok_sum (fun i hi=>ok_var (posOf_get hi) (dbg_ne hd)) (ok_guard fun hg=>ok_sel (fun e=>by cases eq_of_beq e;exact ok_signs hg) (ok_guard fun e=>by cases eq_of_beq e;exact ok_vow hg))
omit hr in
theorem ok_toConst (k:Const) (n:Nat) (p:Pos):OK G c (.Constant k n p) (toConst k):=by
  cases k with
  | int m=>exact ok_int
  | str s=>exact ok_str
  | bool b=>exact ok_bool
  | _=>exact ok_bad
theorem ok_toUn (o:UnaryOp) (e:Expr) (p:Pos):OK G c (.UnaryOp o e p) (toUn rec c o e):=by
  cases o with
  | Not=>exact ok_not (hr c e)
  | USub=>exact ok_opt fun k h1=>ok_opt fun m h2=>by rw [view_el (conK_ok _) h1,view_el (intK_ok _) h2];exact ok_neg
  | _=>exact ok_bad
theorem ok_toAttr (o:Expr) (a:Str) (p:Pos):OK G c (.Attribute o a p) (toAttr rec c o a):=by
  refine ok_sum (fun z hz=>ok_guard fun hd=>ok_sum (fun i hi=>?_) (ok_guard fun hg=>?_)) (ok_guard fun hn=>ok_amo (hr c o) hn)
  · rw [view_el (nmE_ok _) hz]
    cases i with
    | zero=>exact ok_opt fun j hj=>ok_fld (posOf_get hi) (dbg_ne hd) (posOf_get hj)
    | succ i=>exact ok_amo (ok_var (posOf_get hi) (dbg_ne hd)) rfl
  · rw [view_el (nmE_ok _) hz,eq_of_beq (and_r hg)]
    exact ok_cattr (eq_of_beq (and_r hg)▸and_l hg)
theorem ok_toSub (x y:Expr) (p:Pos):OK G c (.Subscript x y p) (toSub rec c x y):=by
  refine ok_sum (fun s hs=>?_) (ok_idx (hr c x) (hr c y))
  rw [view_el (slE_ok _) hs]
  obtain ⟨lo,hi,st,p'⟩:=s
  cases st<;>cases lo<;>cases hi<;>first | exact ok_sliceTo (hr ..) (hr ..) | exact ok_sliceFrom (hr ..) (hr ..) | exact ok_slice (hr ..) (hr ..) (hr ..) | exact ok_bad
theorem ok_toCallN (x:Str) (xs:List Expr) (p p':Pos) (hs:xs.all notStar = true):OK G c (.Call (.Name x p') xs [] p) (toCallN rec c x xs):=by
  have h1:∀ {a},one xs = some a→notStar a = true:=fun e=>by rw [one_el e] at hs;exact and_l hs
  have h2:∀ {z},two xs = some z→notStar z.1 = true∧notStar z.2 = true:=fun e=>by rw [two_el e] at hs;exact ⟨and_l hs,and_l (and_r hs)⟩
  refine ok_guard fun hg=>ok_sel (fun e=>ok_opt fun a ha=>?_) (ok_sel (fun e=>ok_opt fun a ha=>?_) (ok_sel (fun e=>ok_opt fun a ha=>?_) (ok_sel (fun e=>ok_opt fun a ha=>?_) (ok_sel (fun e=>?_) (ok_opt fun f hf=>ok_guard fun h25=>ok_callG hg (posOf_get hf) (of_decide_eq_true h25) (sa_toA hr hs) hs)))))
  · cases eq_of_beq e;rw [one_el ha];exact ok_len hg (hr ..) (h1 ha)
  · cases eq_of_beq e;rw [one_el ha];exact ok_ord hg (hr ..) (h1 ha)
  · cases eq_of_beq e;rw [two_el ha];exact ok_min hg (hr ..) (h2 ha).1 (hr ..) (h2 ha).2
  · cases eq_of_beq e;rw [two_el ha];exact ok_max hg (hr ..) (h2 ha).1 (hr ..) (h2 ha).2
  · cases eq_of_beq e;exact ok_range hg (sa_toA hr hs) hs
theorem ok_toCallM (o:Expr) (nm:Str) (ap p:Pos) (xs:List Expr) (hs:xs.all notStar = true) (hp:(ap.endLine == p.line) = true):OK G c (.Call (.Attribute o nm ap) xs [] p) (toCallM rec c o nm xs):=by
  have h1:∀ {a},one xs = some a→notStar a = true:=fun e=>by rw [one_el e] at hs;exact and_l hs
  refine ok_sel (fun e=>ok_guard fun hn=>ok_opt fun b hb=>?_) (ok_sel (fun e=>ok_opt fun k hk=>ok_guard fun he=>ok_opt fun b hb=>?_) (ok_opt fun z hz=>ok_guard fun hd=>ok_opt fun i hi=>ok_opt fun f hf=>ok_guard fun hh=>?_))
  · cases eq_of_beq e;rw [one_el hb];exact ok_endswith (hr ..) hn (hr ..) (h1 hb) hp
  · cases eq_of_beq e;rw [one_el hb,conS_el hk,eq_of_beq he];exact ok_join (hr ..) (h1 hb) hp
  · rw [view_el (nmE_ok _) hz]
    exact ok_callM (posOf_get hi) (dbg_ne hd) (posOf_get hf) (of_decide_eq_true (and_l hh)) (of_decide_eq_true (and_r hh)) hp (sa_toA hr hs) hs
theorem ok_toCall (f:Expr) (xs:List Expr) (kws:List Keyword) (p:Pos):OK G c (.Call f xs kws p) (toCall rec c f xs kws p):=by
  refine ok_guard fun h=>?_
  cases List.isEmpty_iff.mp (and_l h)
  refine ok_sum (fun z hz=>?_) (ok_opt fun a ha=>ok_guard fun hp=>?_)
  · rw [view_el (nmE_ok _) hz];exact ok_toCallN hr _ _ _ _ (and_r h)
  · rw [view_el (atE_ok _) ha];exact ok_toCallM hr _ _ _ _ _ (and_r h) hp
theorem ok_toComp (ex:Expr) (gens:List Comprehension) (sc:Scope) (p:Pos):OK G c (.ListComp ex gens sc p) (toComp rec c ex gens sc):=by
  refine ok_opt fun z hz=>ok_guard fun h=>?_
  rw [genE_el hz]
  obtain ⟨t,px,it,ifs⟩:=z
  match ifs with
  | []=>exact ok_comp (hr ..) (and_l h) (and_r h) (hr ..)
  | [cd]=>exact ok_compIf (hr ..) (and_l h) (and_r h) (hr ..) (hr ..)
  | _ :: _ :: _=>exact ok_bad
theorem ok_step (c:Cx) (e:Expr):OK G c e (stepE rec c e):=by
  cases e with
  | Name x p=>exact ok_toName x p
  | Constant k n p=>exact ok_toConst k n p
  | UnaryOp o a p=>exact ok_toUn hr o a p
  | BoolOp o xs p=>exact ok_toBool hr o xs p
  | BinOp l o r p=>exact ok_opt fun b hb=>by rw [view_el (bopOf_ok _) hb];exact ok_bop (hr ..) (hr ..)
  | Compare l os rs p=>
    refine ok_opt fun o ho=>ok_opt fun b hb=>ok_opt fun r hr'=>ok_guard fun hm=>?_
    rw [one_el ho,one_el hr',view_el (copIn_ok _) hb];exact ok_cop ((Bool.not_eq_true' _).mp hm) (hr ..) (hr ..)
  | IfExp t a b p=>exact ok_ifexp (hr ..) (hr ..) (hr ..)
  | Attribute o a p=>exact ok_toAttr hr o a p
  | Subscript x y p=>exact ok_toSub hr x y p
  | Call f xs kws p=>exact ok_toCall hr f xs kws p
  | List xs p=>exact ok_guard fun h=>ok_list (sa_toA hr h)
  | Tuple xs m p=>exact ok_guard fun h=>ok_tup (sa_toA hr h)
  | Dict ks vs p=>exact ok_opt fun l hl=>ok_guard fun hd=>ok_dict hl hd
  | ListComp ex gens sc p=>exact ok_toComp hr ex gens sc p
  | _=>exact ok_bad
end
theorem ok_toE {G:Gl} (n:Nat):∀ c e,OK G c e (toE n c e):=by
  induction n with
  | zero=>exact fun _ _=>ok_bad
  | succ n ih=>exact fun c e=>ok_step ih c e
end Mine
namespace Mine
noncomputable def baseOf (S:Sit) (h0:Heap):Heap:=hideAll h0 (frA S.fr)
noncomputable def Held (S:Sit) (L:Addr) (k:Nat) (e:Addr) (h0 h:Heap):Prop:=∃ a0,Heap.HeldW (baseOf S h0) S.fr e (.ref (labA k)) a0 L h∧h0.UpToSlots h
noncomputable def Fly (S:Sit) (k:Nat) (e:Addr) (h0 h:Heap):Prop:=∃ a0,Heap.FlyingW (baseOf S h0) S.fr e (.ref (labA k)) a0 h∧h0.UpToSlots h
noncomputable def Ex (S:Sit) (L:Addr) (k:Nat) (e:Addr) (h0 h:Heap):Prop:=Heap.MadeExcOf h0 h e (.ref (labA k)) [] ∨ Held S L k e h0 h
section
variable {w:World} {B:Heap} {n:Nat} {S:Sit} {g:Option Addr} {σ:AS} {s:Shared} {E:Value→Shared→Prop} {L e:Addr} {k:Nat} {h0:Heap}
theorem frs_hide {fl:FL} {I:Option (Addr × Addr)} (H:HInv B S.fr I fl h0) {h:Heap} (k:∀ b o,h0.get? b = some o→(∀ vs,o.data ≠ .fields vs)→∃ o',h.get? b = some o'∧o'.data = o.data):h.FunFrames (baseOf S h0) S.fr:=by
  have h1:h0.FunFrames (baseOf S h0) S.fr:=funFrames_hide H.frs fun env he a hf=>List.mem_filterMap.mpr ⟨env,he,hf⟩
  exact h1.of_keeps k
theorem base_stays {h:Heap} (k:∀ b o,h0.get? b = some o→h.get? b = some o):(baseOf S h0).StaysIn h:=fun b o e=>k b o (of_hideAll _ e)
theorem note_ok {fl:FL} {I:Option (Addr × Addr)} {env:Env} {outer:List Env} {Q:Unit→Shared→Prop} (hfr:S.fr = env :: outer) (hA:S.A.frames = some S.fr) (hf:env.frame = some L) (H:HInv B S.fr I fl h0) (x:Ex S L k e h0 s.heap)
    (q:∀ h',Held S L k e h0 h'→Q () { s with heap:=h' }):wpAny (model pw w) S.A (noteFrame (.ref e) env) Q E s:=by
  rcases x with x | ⟨a0,x,up⟩
  · obtain ⟨t,he,htn,ht⟩:=x.there
    have hnew:(baseOf S h0).get? e = none:=by
      cases hq:(baseOf S h0).get? e with
      | none=>rfl
      | some o=>have:=of_hideAll _ hq;rw [x.new] at this;cases this
    unfold noteFrame
    simp only [hf]
    refine wpAny_bind (wpAny_field he rfl (x:=.none) rfl ?_)
    rw [if_neg (by decide)]
    have hl:=frs_hide (S:=S) H (h:=s.heap) fun b o hb _=>⟨o,x.keeps b o hb,rfl⟩
    rw [hfr] at hl
    refine wpAny_entryW (a0:=.ref t) (hA.trans (congrArg some hfr)) hl hf he (base_stays x.keeps) hnew rfl (by simp) rfl fun h' N=>?_
    obtain ⟨k1,k2,k3,k4⟩:=N
    exact q h' ⟨.ref t,⟨k1,hnew,hfr▸k2,k3⟩,(Heap.UpToSlots.of_keeps x.keeps).trans k4⟩
  · exact wpAny_noteFrame_againW hf x.2.2.2 (q s.heap ⟨a0,x,up⟩)
theorem land_ok {Q:Unit→Shared→Prop} (x:Held S L k e h0 s.heap) (q:∀ h',Fly S k e h0 h'→Q () { s with heap:=h' }):wpAny (model pw w) S.A (setFlight (.ref e) none) Q E s:=by
  obtain ⟨a0,x,up⟩:=x
  exact wpAny_landsW x fun h' x' u=>q h' ⟨a0,x',up.trans u⟩
theorem land_again {A:Around} {Q:Unit→Shared→Prop} (x:Fly S k e h0 s.heap) (q:∀ h',Fly S k e h0 h'→Q () { s with heap:=h' }):wpAny (model pw w) A (setFlight (.ref e) none) Q E s:=by
  obtain ⟨a0,x,up⟩:=x
  exact lands_againW x fun h' x' u=>q h' ⟨a0,x',up.trans u⟩
theorem setFlight_some {M:Model} {A:Around} {base:Heap} {l:List Env} {cls a0 fl:Value} {Q:Unit→Shared→Prop}
    (hkb:base.StaysIn s.heap) (hl:s.heap.FunFrames base l) (ht:s.heap.TracedAtW base e cls a0 fl)
    (h:∀ h',base.StaysIn h'→h'.FunFrames base l→h'.TracedAtW base e cls a0 (rawInt L)→(∀ b o,s.heap.get? b = some o→(∀ vs,o.data ≠ .fields vs)→h'.get? b = some o)→Q () { s with heap:=h' }) :
    wpAny M A (setFlight (.ref e) (some L)) Q E s:=by
  obtain ⟨oe,vs,T,oT,ts,he,hcls,hd,h1,hnT,hTe,hT,hdT,h3⟩:=ht
  have hsz3:3 < ts.size:=(Array.getElem?_eq_some_iff.mp h3).1
  have other:∀ b,b ≠ T→(s.heap.update T (Obj.mapFields (·.setIfInBounds 3 ((some L:Option Addr).elim Value.none fun f=>rawInt f)))).get? b = s.heap.get? b:=
    fun b hb=>Heap.get?_update_other _ _ (Ne.symm hb)
  have noRecord:∀ b o,s.heap.get? b = some o→(∀ vs,o.data ≠ .fields vs)→b ≠ T:=fun b o hb hnf q=>by
    rw [q,hT] at hb;injection hb with hb;subst hb;exact hnf ts hdT
  unfold setFlight
  refine wpAny_bind (wpAny_field he hd h1 ?_)
  rw [if_pos (show (Value.ref T != Value.none) = true from by simp)]
  refine wpAny_setField hT hdT hsz3 (h _ (fun b o hbo=>(other b fun q=>by rw [q,hnT] at hbo;cases hbo).trans (hkb b o hbo))
    (hl.of_keeps fun b o hb hnf=>⟨o,(other b (noRecord b o hb hnf)).trans hb,rfl⟩) ?_ fun b o hb hnf=>(other b (noRecord b o hb hnf)).trans hb)
  exact ⟨oe,vs,T,_,_,(other e (Ne.symm hTe)).trans he,hcls,hd,h1,hnT,hTe,Heap.get?_update_self _ hT (Obj.isFreed_of_fields (Obj.data_mapFields hdT _)),Obj.data_mapFields hdT _,by simp [hsz3]⟩
theorem field1 {M:Model} {A:Around} {base:Heap} {cls a0 fl:Value} {Q:Value→Shared→Prop} (ht:s.heap.TracedAtW base e cls a0 fl) (q:∀ T,Q (.ref T) s):wpAny M A (field (.ref e) 1) Q E s:=by
  obtain ⟨oe,vs,T,oT,ts,he,hcls,hd,h1,_⟩:=ht
  exact wpAny_field he hd h1 (q T)
theorem pass_ok {α:Type} {env:Env} {what:String} {Q:α→Shared→Prop} (hf:env.frame = some L) (x:Fly S k e h0 s.heap) (q:∀ h',Held S L k e h0 h'→E (.ref e) { s with heap:=h' }):wpAny (model pw w) S.A (PySem.passOn what (.ref e) env) Q E s:=by
  obtain ⟨a0,⟨f1,f2,f3,f4⟩,up⟩:=x
  unfold PySem.passOn
  refine wpAny_bind (field1 f4.at fun T=>?_)
  rw [if_neg (by simp)]
  rw [hf]
  refine wpAny_bind (setFlight_some f1 f3 f4.at fun h' k1 k2 k3 k4=>wpAny_throw (q h' ⟨a0,⟨k1,f2,k2,k3⟩,up.trans fun b o hb hn=>⟨o.slots,k4 b o hb hn⟩⟩))
theorem back_ok {A:Around} {env:Env} (hf:env.frame = some L) (x:Held S L k e h0 s.heap) (q:∀ h',Held S L k e h0 h'→E (.ref e) { s with heap:=h' }):cameBackBy (model pw w) A env E (.ref e) s:=by
  obtain ⟨a0,⟨f1,f2,f3,f4⟩,up⟩:=x
  unfold cameBackBy
  refine wpAny_bind (field1 f4 fun T=>?_)
  rw [if_neg (by simp)]
  rw [hf]
  exact setFlight_some f1 f3 f4 fun h' k1 k2 k3 k4=>q h' ⟨a0,⟨k1,f2,k2,k3⟩,up.trans fun b o hb hn=>⟨o.slots,k4 b o hb hn⟩⟩
theorem kp_of_base {fl:FL} {I:Option (Addr × Addr)} {h:Heap} (H:HInv B S.fr I fl h0) (st:(baseOf S h0).StaysIn h) (up:h0.UpToSlots h):Kp S.fr [] h0 h:=by
  refine ⟨fun b o e _ hf=>st b o (hideAll_get _ e hf),fun b o e _=>?_⟩
  by_cases hm:b ∈ frA S.fr
  · obtain ⟨_,o',ho',hd⟩:=H.frs.mem hm
    rw [e] at ho';cases ho'
    exact up b o e hd
  · exact ⟨o.slots,st b o (hideAll_get _ e hm)⟩
theorem HInv.kp0 {fl:FL} {I:Option (Addr × Addr)} {h h':Heap} {fr:List Env} (H:HInv B fr I fl h) (k:Kp fr [] h h'):HInv B fr I fl h':=by
  refine ⟨fun b o e=>k.exact b o (H.stays b o e) (by simp) fun m=>?_,frs_keep (fun b o e _=>k.slots b o e (by simp)) (fun _ h=>h) H.frs,fun x dx hI=>(H.inst x dx hI).keep (fun o e=>k.exact x o e (by simp) (H.inst x dx hI).xf) (fun o e=>k.exact dx o e (by simp) (H.inst x dx hI).df)⟩
  rw [(H.frs.mem m).1] at e;cases e
theorem Inv.kp0 {s':Shared} (V:Inv w B S g σ s) (k:Kp S.fr [] s.heap s'.heap) (hg:s'.gens = #[]) (ho:s'.os = S.os):Inv w B S g σ s':=
  V.kp (V.toHInv.kp0 k) (k.mono fun _ h=>by cases h) hg ho
end
end Mine
namespace Mine
structure GS (S:Sit):Prop where
  outer:∃ outer,S.fr = S.env :: outer
  frame:S.env.frame = some S.env.locals
theorem GS.loc {S:Sit} (h:GS S):S.env.locals ∈ frA S.fr:=by
  obtain ⟨o,ho⟩:=h.outer
  exact List.mem_filterMap.mpr ⟨S.env,by rw [ho];exact .head _,h.frame⟩
noncomputable def dS (S:Sit) (g:Option Addr):List Addr:=S.env.locals :: (g.toList ++ dl S.inst)
theorem dS_nil {S:Sit} {b:Addr} (h:b ∉ dS S none):b ≠ S.env.locals∧b ∉ dl S.inst:=⟨fun e=>h (e▸.head _),fun m=>h (.tail _ m)⟩
theorem dS_not {S:Sit} {g:Option Addr} {b:Addr} (h1:b ≠ S.env.locals) (h2:g ≠ some b) (h3:b ∉ dl S.inst):b ∉ dS S g:=fun m=>by
  cases m with
  | head=>exact h1 rfl
  | tail _ m=>exact (List.mem_append.mp m).elim (fun m=>h2 (Option.mem_toList.mp m)) h3
structure Stp (S:Sit) (g g':Option Addr) (h h':Heap):Prop where
  kp:Kp S.fr (dS S g) h h'
  gf:g' = g ∨ ∃ a,g' = some a∧h.get? a = none
  ex:∀ b o,h.get? b = some o→∃ o',h'.get? b = some o'
theorem Stp.refl (S g h):Stp S g g h h:=⟨.refl ..,.inl rfl,fun _ o e=>⟨o,e⟩⟩
theorem Stp.nd {S:Sit} {g₁ g₂:Option Addr} {h₁ h₂:Heap} (x:Stp S g₁ g₂ h₁ h₂) {b:Addr} {o:Obj} (e:h₁.get? b = some o) (hn:b ∉ dS S g₁):b ∉ dS S g₂:=by
  rcases x.gf with rfl | ⟨a,rfl,ha⟩
  · exact hn
  · exact dS_not (fun z=>hn (z▸.head _)) (fun z=>by cases z;rw [ha] at e;cases e) fun m=>hn (.tail _ (List.mem_append_right _ m))
theorem Stp.trans {S:Sit} {g₁ g₂ g₃:Option Addr} {h₁ h₂ h₃:Heap} (x:Stp S g₁ g₂ h₁ h₂) (y:Stp S g₂ g₃ h₂ h₃):Stp S g₁ g₃ h₁ h₃:=by
  refine ⟨⟨fun b o e hd hf=>y.kp.exact b o (x.kp.exact b o e hd hf) (x.nd e hd) hf,fun b o e hd=>?_⟩,?_,fun b o e=>let ⟨o₁,e₁⟩:=x.ex b o e;y.ex b o₁ e₁⟩
  · obtain ⟨sl,e₁⟩:=x.kp.slots b o e hd
    obtain ⟨sl',e₂⟩:=y.kp.slots b _ e₁ (x.nd e hd)
    exact ⟨sl',e₂⟩
  · rcases y.gf with rfl | ⟨a,rfl,ha⟩
    · exact x.gf
    · refine .inr ⟨a,rfl,?_⟩
      cases h:h₁.get? a with
      | none=>rfl
      | some o=>obtain ⟨o',e⟩:=x.ex a o h;rw [ha] at e;cases e
theorem Stp.keep {S:Sit} {g:Option Addr} {h h':Heap} (k:∀ b o,h.get? b = some o→h'.get? b = some o):Stp S g g h h':=⟨.of_keep k,.inl rfl,fun b o e=>⟨o,k b o e⟩⟩
theorem Stp.but {S:Sit} {g:Option Addr} {h h':Heap} {a:Addr} (k:∀ b o,b ≠ a→h.get? b = some o→h'.get? b = some o) (ha:a ∈ dS S g) (he:∃ o,h'.get? a = some o):Stp S g g h h':=by
  refine ⟨.of_but ha k,.inl rfl,fun b o e=>?_⟩
  by_cases hb:b = a
  · exact hb▸he
  · exact ⟨o,k b o hb e⟩
theorem Stp.fresh {S:Sit} {g g':Option Addr} {h0 h h':Heap} {C:Addr} (x:Stp S g g' h0 h) (hC:h0.get? C = none) (k:∀ b o,b ≠ C→h.get? b = some o→h'.get? b = some o):Stp S g g' h0 h':=by
  refine ⟨x.kp.fresh hC k,x.gf,fun b o e=>?_⟩
  obtain ⟨o',e'⟩:=x.ex b o e
  exact ⟨o',k b o' (by rintro rfl;rw [hC] at e;cases e) e'⟩
noncomputable def OutIs (w:World) (S:Sit) (g:Option Addr) (h:Heap):Out→Flow→Prop
  | .next,f=>f = .next
  | .brk,f=>f = .brk
  | .cont,f=>f = .cont
  | .ret v,f=>∃ val,f = .ret val∧Rep w S.fr S.inst g h v val∧v.isOwn = false
  | .exc _,_=>False
variable {G:Gl} {c:Cx}
structure RS (x:At G c) (σ':AS) (out:Out) where
  g:Option Addr
  s:Shared
  f:Flow
  inv:Inv G.w G.B x.S g σ' s
  stp:Stp x.S x.g g x.s.heap s.heap
  out:OutIs G.w x.S g s.heap out f
structure XS (x:At G c) (σ':AS) (k:Nat) where
  g:Option Addr
  h0:Heap
  e:Addr
  s:Shared
  inv:Inv G.w G.B x.S g σ' { s with heap:=h0 }
  stp:Stp x.S x.g g x.s.heap h0
  ex:Ex x.S x.S.env.locals k e h0 s.heap
structure PS (x:At G c) (σ':AS) (out:Out) (Q:Flow→Shared→Prop):Prop where
  ok:∀ r:RS x σ' out,Q r.f r.s
  exc:∀ k,out = .exc k→∀ r:XS x σ' k,x.E (.ref r.e) r.s
noncomputable def SS (G:Gl) (c:Cx) (st:Stmt) (d:Step):Prop:=∀ (x:At G c),GS x.S→∀ σ' out (Q:Flow→Shared→Prop),d x.σ = some (σ',out)→PS x σ' out Q→Wp x (exec st x.S.env) Q
noncomputable def BS (G:Gl) (c:Cx) (st:List Stmt) (d:Step):Prop:=∀ (x:At G c),GS x.S→∀ σ' out (Q:Flow→Shared→Prop),d x.σ = some (σ',out)→PS x σ' out Q→Wp x (execs st x.S.env) Q
noncomputable def At.go (x:At G c) {g:Option Addr} {σ:AS} {s:Shared} (V:Inv G.w G.B x.S g σ s):At G c:=⟨x.S,g,σ,s,x.E,x.ctx,x.good,V⟩
noncomputable abbrev RS.at {x:At G c} {σ':AS} {out:Out} (r:RS x σ' out):At G c:=x.go r.inv
noncomputable def RS.back {x:At G c} {g:Option Addr} {σ σ':AS} {s:Shared} {out:Out} (V:Inv G.w G.B x.S g σ s) (y:Stp x.S x.g g x.s.heap s.heap) (r:RS (x.go V) σ' out):RS x σ' out:=⟨r.g,r.s,r.f,r.inv,y.trans r.stp,r.out⟩
noncomputable def XS.back {x:At G c} {g:Option Addr} {σ σ':AS} {s:Shared} {k:Nat} (V:Inv G.w G.B x.S g σ s) (y:Stp x.S x.g g x.s.heap s.heap) (r:XS (x.go V) σ' k):XS x σ' k:=⟨r.g,r.h0,r.e,r.s,r.inv,y.trans r.stp,r.ex⟩
theorem PS.step {x:At G c} {σ':AS} {out:Out} {Q:Flow→Shared→Prop} (q:PS x σ' out Q) {g:Option Addr} {σ:AS} {s:Shared} (V:Inv G.w G.B x.S g σ s) (y:Stp x.S x.g g x.s.heap s.heap):PS (x.go V) σ' out Q:=
  ⟨fun r=>q.ok (r.back V y),fun k hk r=>q.exc k hk (r.back V y)⟩
theorem Res.stp {x:At G c} {fl:FL} {v:AV} (r:Res x fl v):Stp x.S x.g x.g x.s.heap r.s.heap:=by
  refine ⟨r.kp.mono fun b hb=>.tail _ (List.mem_append_right _ hb),.inl rfl,fun b o e=>?_⟩
  by_cases hm:b ∈ dl x.S.inst
  · obtain ⟨z,hI⟩:=mem_dl hm
    obtain ⟨o,_,_,ho,_⟩:=(r.inv.inst z b hI).dcl
    exact ⟨o,ho⟩
  · obtain ⟨sl,e'⟩:=r.kp.slots b o e hm;exact ⟨_,e'⟩
theorem PS.res {x:At G c} {σ':AS} {out:Out} {Q:Flow→Shared→Prop} (q:PS x σ' out Q) {fl:FL} {v:AV} (r:Res x fl v):PS r.at σ' out Q:=q.step r.inv r.stp
theorem PS.now {x:At G c} {out:Out} {f:Flow} {Q:Flow→Shared→Prop} (q:PS x x.σ out Q) (h:OutIs G.w x.S x.g x.s.heap out f):Q f x.s:=q.ok ⟨x.g,x.s,f,x.inv,.refl ..,h⟩
theorem ss_bad {st:Stmt} {d:Step} (h:∀ σ,d σ = none):SS G c st d:=fun x _ _ _ _ e=>by rw [h] at e;cases e
theorem ss_pass {p:Pos} {N:Nat}:SS G c (.Pass p) (evS tabs G.Γ N .pass):=fun x _ _ _ Q he q=>by cases he;exact wpAny_Pass (q.now rfl)
theorem ss_brk {p:Pos} {N:Nat}:SS G c (.Break p) (evS tabs G.Γ N .brk):=fun x _ _ _ Q he q=>by cases he;exact wpAny_Break (q.now rfl)
theorem ss_cont {p:Pos} {N:Nat}:SS G c (.Continue p) (evS tabs G.Γ N .cont):=fun x _ _ _ Q he q=>by cases he;exact wpAny_Continue (q.now rfl)
theorem nif_el {β:Type} {b:Bool} {o:Option β} {r:β} {P:Prop} (h:(if b = true then none else o) = some r) (q:b = false→o = some r→P):P:=by
  cases b with
  | true=>cases h
  | false=>exact q rfl h
theorem yif_el {β:Type} {b:Bool} {o:Option β} {r:β} {P:Prop} (h:(if b = true then o else none) = some r) (q:b = true→o = some r→P):P:=by
  cases b with
  | true=>exact q rfl h
  | false=>cases h
theorem ss_ret {a:Expr} {e:CE} {p:Pos} {N:Nat} (h:OK G c a e):SS G c (.Return (some a) p) (evS tabs G.Γ N (.ret e)):=fun x _ _ _ Q he q=>ob_el he fun v fl e1 he=>nif_el he fun ho he=>by
  cases he
  exact wpAny_Return_some (h.se x fl v _ e1 fun r=>(q.res r).now ⟨_,rfl,r.rep,ho⟩)
theorem test_at {a:Expr} {e:CE} (h:OK G c a e) (x:At G c) {b:Bool} {fl:FL} {Q:Bool→Shared→Prop} (he:evT tabs G.Γ e x.σ = some (b,fl)) (q:∀ r:Res x fl (ab b),Q b r.s):Wp x (isTrue a x.S.env (eval a x.S.env)) Q:=
  truth_el he fun b' f e1 e2=>by cases e2;exact h.te x _ _ Q e1 q
theorem ss_assert {a:Expr} {e:CE} {p:Pos} {N:Nat} (h:OK G c a e):SS G c (.Assert a none p) (evS tabs G.Γ N (.assert e)):=fun x _ _ _ Q he q=>
  otb_el he (fun fl e1 he=>by cases he;exact wpAny_Assert_holds (test_at h x e1 fun r=>⟨rfl,(q.res r).now rfl⟩)) fun _ _ he=>none_el he
theorem ss_ite {t:Expr} {a b:List Stmt} {p:Pos} {N:Nat} {e:CE} {ca cb:CB} (h:OK G c t e) (ha:BS G c a (evB tabs G.Γ N ca)) (hb:BS G c b (evB tabs G.Γ N cb)):SS G c (.If t a b p) (evS tabs G.Γ N (.ite e ca cb)):=fun x hg _ _ Q he q=>
  otb_el he (fun fl e1 he=>wpAny_If (test_at h x e1 fun r=>ha r.at hg _ _ Q he (q.res r))) fun fl e1 he=>wpAny_If (test_at h x e1 fun r=>hb r.at hg _ _ Q he (q.res r))
theorem bs_nil {N:Nat}:BS G c [] (evB tabs G.Γ N .nil):=fun x _ _ _ Q he q=>by cases he;exact wpAny_execs_nil (q.now rfl)
theorem thenN_el {o:Option (AS × Out)} {k:AS→Option (AS × Out)} {σ':AS} {out:Out} {P:Prop} (h:thenN o k = some (σ',out)) (q1:∀ σ₁,o = some (σ₁,.next)→k σ₁ = some (σ',out)→P) (q2:out ≠ .next→o = some (σ',out)→P):P:=by
  cases o with
  | none=>cases h
  | some p=>obtain ⟨σ₁,o⟩:=p;cases o with
    | next=>exact q1 σ₁ rfl h
    | _=>cases h;exact q2 (fun e=>nomatch e) rfl
noncomputable def kC (K:Shared→Prop) (Q:Flow→Shared→Prop) (f:Flow) (s:Shared):Prop:=match f with
  | .next=>K s
  | f=>Q f s
theorem kC_not {w:World} {S:Sit} {g:Option Addr} {h:Heap} {out:Out} {K:Shared→Prop} {Q:Flow→Shared→Prop} {f:Flow} {s:Shared} (ho:OutIs w S g h out f) (hn:out ≠ .next) (q:Q f s):kC K Q f s:=by
  cases out with
  | next=>exact absurd rfl hn
  | exc k=>exact ho.elim
  | ret v=>obtain ⟨val,rfl,_⟩:=ho;exact q
  | _=>cases ho;exact q
theorem bs_cons {st:Stmt} {sts:List Stmt} {N:Nat} {cs:CS} {cb:CB} (h:SS G c st (evS tabs G.Γ N cs)) (h2:BS G c sts (evB tabs G.Γ N cb)):BS G c (st :: sts) (evB tabs G.Γ N (.cons cs cb)):=fun x hg σ' out Q he q=>
  wpAny_execs_cons (thenN_el he
    (fun σ₁ hx he=>h x hg σ₁ .next (kC (fun s=>wpAny (model pw G.w) x.S.A (execs sts x.S.env) Q x.E s) Q) hx ⟨fun ⟨g,s,f,V,y,o⟩=>by cases o;exact h2 (x.go V) hg σ' out Q he (q.step V y),fun _ hk=>nomatch hk⟩)
    fun hn hx=>h x hg σ' out (kC (fun s=>wpAny (model pw G.w) x.S.A (execs sts x.S.env) Q x.E s) Q) hx ⟨fun r=>kC_not r.out hn (q.ok r),q.exc⟩)
end Mine
namespace Mine
theorem Rep.keep3 {w:World} {fr:List Env} {I:Option (Addr × Addr)} {g:Option Addr} {h h':Heap} {v:AV} {val:Value} (r:Rep w fr I g h v val) (hv:v.isDR = false) (k:∀ b o,h.get? b = some o→(∃ vs m,o.data = .seq vs m)→∃ sl,h'.get? b = some { o with slots:=sl }):Rep w fr I g h' v val:=by
  cases v with
  | «at» a=>exact r
  | list l=>
    obtain ⟨a,vs,e,n,⟨o,ho,hc,m,hd⟩,q⟩:=r
    obtain ⟨sl,e'⟩:=k a o ho ⟨_,_,hd⟩
    exact ⟨a,vs,e,n,⟨_,e',hc,m,hd⟩,q⟩
  | tup l=>
    obtain ⟨a,vs,e,n,⟨o,m,ho,hc,hd⟩,q⟩:=r
    obtain ⟨sl,e'⟩:=k a o ho ⟨_,_,hd⟩
    exact ⟨a,vs,e,n,⟨_,m,e',hc,hd⟩,q⟩
  | own l=>
    obtain ⟨a,vs,e,n,⟨o,m,ho,hc,hdd,hd⟩,q⟩:=r
    obtain ⟨sl,e'⟩:=k a o ho ⟨_,_,hd⟩
    exact ⟨a,vs,e,n,⟨_,m,e',hc,hdd,hd⟩,q⟩
  | _=>cases hv
theorem Rep.butC {w:World} {fr:List Env} {I:Option (Addr × Addr)} {g:Option Addr} {h h':Heap} {v:AV} {val:Value} {C:Addr} (r:Rep w fr I g h v val) (hv:v.isDR = false) (hC:∀ o,h.get? C = some o→∀ vs m,o.data ≠ .seq vs m) (k:∀ b o,b ≠ C→h.get? b = some o→h'.get? b = some o):Rep w fr I g h' v val:=
  r.keep3 hv fun b o e ⟨vs,m,hd⟩=>⟨o.slots,k b o (fun z=>hC o (z▸e) vs m hd) e⟩
theorem ns_noseq {h:Heap} {C:Addr} {m:Str→Option Value} (n:h.Ns C m):(∀ o,h.get? C = some o→∀ vs k,o.data ≠ .seq vs k)∧∀ o,h.get? C = some o→∀ v,o.data ≠ .cell v:=by
  obtain ⟨o2,es,ep,ho2,hd2,_⟩:=n
  exact ⟨fun o e vs k hd=>(by cases ho2.symm.trans e;cases hd2.symm.trans hd),fun o e v hd=>(by cases ho2.symm.trans e;cases hd2.symm.trans hd)⟩
theorem ReadsVar.butC {env:Env} {h h':Heap} {x:Str} {v:Value} {C:Addr} (r:ReadsVar env h x v) (hC:∀ o,h.get? C = some o→∀ v,o.data ≠ .cell v) (hl:∀ m,h.Ns env.locals m→h'.Ns env.locals m) (k:∀ b o,b ≠ C→h.get? b = some o→h'.get? b = some o):ReadsVar env h' x v:=by
  rcases r with ⟨k1,m1,hn1,hm1⟩ | ⟨k1,c,hc,o,hoc,hdc⟩
  · exact .inl ⟨k1,m1,hl m1 hn1,hm1⟩
  · exact .inr ⟨k1,c,hc,o,k c o (fun z=>hC o (z▸hoc) _ hdc) hoc,hdc⟩
theorem OwnIs.butC {h h':Heap} {C a:Addr} {vs:Array Value} (r:OwnIs h a vs) (ha:a ≠ C) (k:∀ b o,b ≠ C→h.get? b = some o→h'.get? b = some o):OwnIs h' a vs:=by
  obtain ⟨o,j,e1,e2⟩:=r
  exact ⟨o,j,k a o ha e1,e2⟩
theorem nodup_idx {α:Type} {l:List α} (h:l.Nodup) {i j:Nat} {x:α} (e:l[i]? = some x) (e':l[j]? = some x):i = j:=
  (List.getElem?_inj (List.getElem?_eq_some_iff.mp e).1 h).mp (e.trans e'.symm)
theorem hinv_loc {n:Nat} {B:Heap} {S:Sit} {fl:FL} {h h':Heap} (hg:GS S) (hL0:B.get? S.env.locals = none) (H:HInv B S.fr S.inst fl h) (k:∀ b o,b ≠ S.env.locals→h.get? b = some o→h'.get? b = some o) (hl:∃ m,h'.Ns S.env.locals m):HInv B S.fr S.inst fl h':=by
  have hL:=hg.loc
  refine ⟨fun b o e=>k b o (fun q=>by rw [q,hL0] at e;cases e) (H.stays b o e),?_,fun x dx q=>(H.inst x dx q).keep (fun o=>k x o fun z=>(H.inst x dx q).xf (z▸hL)) (fun o=>k dx o fun z=>(H.inst x dx q).df (z▸hL))⟩
  have:∀ {l:List Env},h.FunFrames B l→h'.FunFrames B l:=by
    intro l
    induction l with
    | nil=>intro _;trivial
    | cons env r ih=>
      rintro ⟨hk,⟨L,o,hf,hn,ho,hd⟩,hr⟩
      refine ⟨hk,?_,ih hr⟩
      by_cases hx:L = S.env.locals
      · subst hx
        obtain ⟨m,o',es,ep,ho',hd',_⟩:=hl
        exact ⟨_,o',hf,hn,ho',fun vs q=>by rw [hd'] at q;cases q⟩
      · exact ⟨L,o,hf,hn,k L o hx ho,hd⟩
  exact this H.frs
variable {G:Gl} {c:Cx}
structure Upd (x:At G c) (i:Nat) (nm:Str) (v:AV) (val:Value) (g':Option Addr) (s':Shared):Prop where
  nmi:c.names[i]? = some nm
  hinv:HInv G.B x.S.fr x.S.inst x.σ.fl s'.heap
  loc:∃ m,s'.heap.Ns x.S.env.locals m
  rd:ReadsVar x.S.env s'.heap nm val
  rep:Rep G.w x.S.fr x.S.inst g' s'.heap v val
  dr:v.isDR = false
  old:∀ y z,y ≠ nm→ReadsVar x.S.env x.s.heap y z→ReadsVar x.S.env s'.heap y z
  reps:∀ j u z,j ≠ i→x.σ.loc[j]? = some (some u)→u.isDR = false→x.rep u z→Rep G.w x.S.fr x.S.inst g' s'.heap u z
  gown:∀ a,g' = some a→hasOwn ⟨x.σ.loc.set i (some v),x.σ.fl⟩ = true∧a ≠ x.S.env.locals∧a ∉ dl x.S.inst∧a ∉ frA x.S.fr∧G.B.get? a = none∧∃ vs,OwnIs s'.heap a vs
  gens:s'.gens = #[]
  os:s'.os = x.S.os
theorem set_el {α:Type} {l:List α} {i j:Nat} {a b:α} {P:Prop} (h:(l.set i a)[j]? = some b) (q1:j = i→a = b→P) (q2:j ≠ i→l[j]? = some b→P):P:=by
  by_cases hj:j = i
  · subst hj
    rw [List.getElem?_set_self (by have:=(List.getElem?_eq_some_iff.mp h).1;rwa [List.length_set] at this)] at h
    exact q1 rfl (Option.some.inj h)
  · rw [List.getElem?_set_ne (Ne.symm hj)] at h
    exact q2 hj h
theorem Upd.inv {x:At G c} {i:Nat} {nm:Str} {v:AV} {val:Value} {g':Option Addr} {s':Shared} (U:Upd x i nm v val g' s'):Inv G.w G.B x.S g' ⟨x.σ.loc.set i (some v),x.σ.fl⟩ s':=
  { toHInv:=U.hinv
    loc:=U.loc
    vars:=fun j u hu=>set_el hu (fun e1 e2=>by cases e1;cases e2;exact ⟨nm,val,x.ctx.names▸U.nmi,U.rd,U.rep⟩) fun hj hu=>by
      obtain ⟨y,z,e1,e2,e3⟩:=x.inv.vars j u hu
      exact ⟨y,z,e1,U.old y z (fun e=>hj (nodup_idx x.good.nodup e1 (e▸x.ctx.names▸U.nmi))) e2,U.reps j u z hj hu (x.inv.dr j u hu) e3⟩
    dr:=fun j u hu=>set_el hu (fun _ e2=>by cases e2;exact U.dr) fun _ hu=>x.inv.dr j u hu
    len:=(List.length_set ..).trans x.inv.len
    ld:=x.inv.ld
    gown:=U.gown
    gens:=U.gens
    os:=U.os }
theorem hasOwn_set {σ:AS} {i:Nat} {v:AV} (ho:okSet i σ = true) (h:hasOwn σ = true) {fl:FL}:hasOwn ⟨σ.loc.set i (some v),fl⟩ = true:=by
  unfold hasOwn at h ⊢
  rw [List.any_eq_true] at h ⊢
  obtain ⟨z,hz,hz'⟩:=h
  obtain ⟨j',hj'⟩:=List.getElem?_of_mem hz
  refine ⟨z,?_,hz'⟩
  have hne:i ≠ j':=by
    rintro rfl
    unfold okSet at ho
    rw [hj'] at ho
    cases z with
    | none=>cases hz'
    | some u=>cases u<;>first | (cases hz';done) | (cases ho;done)
  exact List.mem_of_getElem? (i:=j') (by rw [List.getElem?_set_ne hne];exact hj')
structure Loc (c:Cx) (i:Nat) (nm:Str):Prop where
  nmi:c.names[i]? = some nm
  kd:c.kinds.lookup nm = some .local
theorem Loc.at {i:Nat} {nm:Str} (L:Loc c i nm) (x:At G c):x.S.env.kindOf nm = some .local:=by unfold Env.kindOf;rw [x.ctx.kinds];exact L.kd
theorem At.store (x:At G c):(x.S.env.scope.kind == .class || (x.S.env.scope.kind == .module && x.S.env.locals != x.S.env.globals)) = false:=by rw [x.good.kind];rfl
structure Sto (x:At G c) (nm:Str) (val:Value) (h1 h':Heap) (m:Str→Option Value):Prop where
  ns:h'.Ns x.S.env.locals m
  new:m nm = some val
  old:∀ y z,y ≠ nm→ReadsVar x.S.env h1 y z→ReadsVar x.S.env h' y z
  but:∀ b o,b ≠ x.S.env.locals→h1.get? b = some o→h'.get? b = some o
theorem sto_at (x:At G c) {i:Nat} {nm:Str} (L:Loc c i nm) {val:Value} {h1:Heap} (hl:∃ m,h1.Ns x.S.env.locals m) {R:Unit→Shared→Prop} (q:∀ h' m tk,Sto x nm val h1 h' m→R () { x.s with heap:=h',toks:=tk }) :
    wpAny (model pw G.w) x.S.A (storeName x.S.env nm val) R x.E { x.s with heap:=h1 }:=by
  obtain ⟨m,hn⟩:=hl
  refine wpAny_storeName_local (L.at x) hn (fun h' hn' hs=>q h' _ _ ⟨hn',if_pos rfl,fun y z hy r=>?_,fun b o hb e=>hs.extBut b o hb e⟩) x.store
  rcases r with ⟨k1,m1,hn1,hm1⟩ | ⟨k1,c,hc,o,hoc,hdc⟩
  · cases hn1.eq_nsMap.trans hn.eq_nsMap.symm
    exact .inl ⟨k1,_,hn',(if_neg hy).trans hm1⟩
  · exact .inr ⟨k1,c,hc,o,hs.extBut c o (fun z=>(ns_noseq hn).2 o (z▸hoc) _ hdc) hoc,hdc⟩
theorem Sto.stp {x:At G c} {nm:Str} {val:Value} {h1 h':Heap} {m:Str→Option Value} (T:Sto x nm val h1 h' m) (g:Option Addr):Stp x.S g g h1 h':=.but T.but (.head _) (let ⟨o,_,_,ho,_⟩:=T.ns;⟨o,ho⟩)
structure Stored (x:At G c) (i:Nat) (v:AV) (s':Shared):Prop where
  inv:Inv G.w G.B x.S x.g ⟨x.σ.loc.set i (some v),x.σ.fl⟩ s'
  stp:Stp x.S x.g x.g x.s.heap s'.heap
  but:∀ b o,b ≠ x.S.env.locals→x.s.heap.get? b = some o→s'.heap.get? b = some o
theorem store_at (x:At G c) (hg:GS x.S) {i:Nat} {nm:Str} (L:Loc c i nm) {v:AV} {val:Value} (ho:okSet i x.σ = true) (r:x.rep v val) (hv:v.isDR = false) {R:Unit→Shared→Prop} (q:∀ s',Stored x i v s'→R () s'):Wp x (storeName x.S.env nm val) R:=by
  refine sto_at x L x.inv.loc fun h' m tk T=>q _ ?_
  obtain ⟨m0,hn0⟩:=x.inv.loc
  have hns:=(ns_noseq hn0).1
  have U:Upd x i nm v val x.g { x.s with heap:=h',toks:=tk }:=
    ⟨L.nmi,hinv_loc (n:=G.n) hg x.good.newL x.inv.toHInv T.but ⟨m,T.ns⟩,⟨m,T.ns⟩,.inl ⟨L.at x,m,T.ns,T.new⟩,r.butC hv hns T.but,hv,T.old,fun j u z _ _ hu ru=>ru.butC hu hns T.but,
      fun a e=>let ⟨h1,h2,h3,h4,h5,vs,h6⟩:=x.inv.gown a e;⟨hasOwn_set ho h1,h2,h3,h4,h5,vs,h6.butC h2 T.but⟩,x.inv.gens,x.inv.os⟩
  exact ⟨U.inv,T.stp x.g,T.but⟩
theorem isSt_dr {v:AV} (h:v.isSt = true):v.isDR = false:=by cases v<;>first | rfl | cases h
end Mine
namespace Mine
theorem dutchSet (P:Params):findIn (KK P) (.ref 407) "__setattr__" = some (some (.builtin "object.__setattr__")):=by kernel_rfl!
theorem dutchOver (P:Params):plainOver (KK P) 407 = true:=by kernel_rfl!
theorem fnamesND:fnames.Nodup:=by decide +kernel
variable {G:Gl} {c:Cx}
theorem inst_set {fr:List Env} {B h h':Heap} {x dx:Addr} {fl:FL} {mA:Str→Option Value} {i:Nat} {nm:Str} {a:Atom} {val:Value} (J:InstOk fr B h x dx fl) (hno:∀ n,n ∉ fnames→mA n = none) (hfl:∀ (i:Nat) n,fnames[i]? = some n→FieldIs (some (x,dx)) (fl[i]?) (mA n))
    (h2:fnames[i]? = some nm) (ha:isPl a = true) (r:RepA (some (x,dx)) a val) (hn:h'.Ns1 dx (fun y=>if y = nm then some val else mA y)) (k:∀ b o,b ≠ dx→h.get? b = some o→h'.get? b = some o):InstOk fr B h' x dx (fl.set i (some a)):=by
  refine ⟨k x _ (Ne.symm J.ne) J.obj,⟨_,hn,fun y hy=>?_,fun j y hj=>?_⟩,?_,(List.length_set ..).trans J.len,J.ne,J.xf,J.df,J.bx,J.bd⟩
  · rw [if_neg (fun (e:y = nm)=>hy (e▸List.mem_of_getElem? h2))];exact hno y hy
  · by_cases hji:j = i
    · subst hji
      cases h2.symm.trans hj
      rw [List.getElem?_set_self (by rw [J.len];exact (List.getElem?_eq_some_iff.mp h2).1),if_pos rfl]
      exact ⟨val,rfl,r,ha⟩
    · rw [List.getElem?_set_ne (Ne.symm hji),if_neg fun (e:y = nm)=>hji (nodup_idx fnamesND (e▸hj) h2)]
      exact hfl j y hj
  · obtain ⟨o2,es2,ep2,ho2,hd2,_⟩:=hn
    exact ⟨o2,es2,ep2,ho2,hd2⟩
theorem hinv_set (x:At G c) {ix dx:Addr} {fl':FL} {h':Heap} (hI:x.S.inst = some (ix,dx)) (J:InstOk x.S.fr G.B x.s.heap ix dx x.σ.fl) (k:∀ b o,b ≠ dx→x.s.heap.get? b = some o→h'.get? b = some o) (J':InstOk x.S.fr G.B h' ix dx fl'):HInv G.B x.S.fr x.S.inst fl' h':=
  ⟨fun b o e=>k b o (fun z=>by rw [z,J.bd] at e;cases e) (x.inv.stays b o e),frs_keep (fun b o e hm=>⟨o.slots,k b o (fun z=>J.df (z▸hm)) e⟩) (fun _ h=>h) x.inv.frs,fun x' dx' hI'=>by cases hI.symm.trans hI';exact J'⟩
theorem setf_at (x:At G c) {i:Nat} {ix dx:Addr} {nm:Str} {a:Atom} {val:Value} {R:Unit→Shared→Prop} (hI:x.S.inst = some (ix,dx)) (h2:fnames[i]? = some nm) (ha:isPl a = true) (r:RepA x.S.inst a val)
    (q:∀ z:Res x (x.σ.fl.set i (some a)) (.at (.cst .none)),R () z.s):Wp x (setAttr (.ref ix) nm val) R:=by
  have J:=x.inv.inst ix dx hI
  obtain ⟨mA,hns,hno,hfl⟩:=J.ns
  obtain ⟨o',es,ep,ho,hd,hk,huq,hfind⟩:=id hns
  have I:InstAt x.s.heap ix ⟨.ref 407,some dx,.plain,#[]⟩ 407 (some o'):=⟨J.obj,rfl,rfl,ho⟩
  obtain ⟨attr,hat,_,hG⟩:=fld_facts G.w.params h2
  refine set_plain x.kin I (dutchSet _) (osa_open (s:={ x.s with toks:=x.s.toks+1 }) x.kin I (dutchOver _) hG fun b=>?_)
  obtain ⟨cd,hc,hd'⟩:=any_some (dutchDict G.w.params)
  refine wpAny_bind (wpAny_pure (wpAny_bind (wpAny_bind (wpAny_loadPart J.obj (wpAny_bind (looks_clsIn x.kin hc _ _ _ _ (fun _ _ e=>e) ?_))))))
  rw [hd']
  refine wpAny_pure (a:=some dx) (wpAny_bind (wpAny_pure (wpAny_bind ?_)))
  refine wpAny_nsSet1 (m:=mA) hns fun h' hn' hs=>?_
  have hw:Within (fun y=>if y = nm then some val else mA y) fnames:=fun y hy=>by
    by_cases e:y = nm
    · rw [e];exact List.mem_of_getElem? h2
    · change (if y = nm then some val else mA y) ≠ none at hy
      rw [if_neg e] at hy
      exact Decidable.byContradiction fun hn=>hy (hno y hn)
  obtain ⟨oD,esD,epD,hoD,hdD,hcD⟩:=hn'.count hw
  refine wpAny_bind (wpAny_lookBehind hoD (by rw [hdD];exact pastItsLine_dict (Nat.le_trans hcD (by rw [sizeLine_eq];decide))) ?_)
  have hsE:=hs.extBut
  have kp:Kp x.S.fr (dl x.S.inst) x.s.heap h':=.of_but (by rw [hI];exact .head _) hsE
  have hH:=hinv_set x hI J hsE (inst_set J hno hfl h2 ha (hI▸r) hn' hsE)
  exact wpAny_pure (q ⟨.none,{ x.s with heap:=h',toks:=x.s.toks+1+1 },x.inv.kp (s':={ x.s with heap:=h',toks:=x.s.toks+1+1 }) hH kp x.inv.gens x.inv.os,kp,rfl⟩)
noncomputable def isComp (e:Expr):Bool:=Nat.beq e.ctorIdx 8
noncomputable def swapFree (e:Expr):Bool:=!isCtor [8,9,10] e
theorem no_swap {e:Expr} (h:swapFree e = true) (t:Option Expr) (l:Nat) (env:Env):swapsWith e t l env = pure false:=by
  cases e<;>first | rfl | cases h
theorem selfif_el {β:Type} {σ:AS} {o:Option β} {r:β} {P:Prop} (h:(if selfIs σ = true then o else none) = some r) (q:locGet σ 0 = some (.at .me)→o = some r→P):P:=yif_el h fun h1 h2=>q (selfIs_get h1) h2
theorem ss_setf {a:Expr} {e:CE} {p p' p'':Pos} {N:Nat} {i:Nat} {x nm:Str} (hx:c.names[0]? = some x) (hd:x ≠ sName "__debug__") (h2:fnames[i]? = some nm) (hs:swapFree a = true) (h:OK G c a e):SS G c (.Assign [.Attribute (.Name x p) nm p'] a p'') (evS tabs G.Γ N (.setf i e)):=
  fun y hg _ _ Q he q=>selfif_el he fun hme he=>obA_el he fun b fl e1 he=>yif_el he fun hp he=>by
    cases he
    exact plainObj_wpAny_Assign_Attribute (h.se y fl (.at b) _ e1 fun r=>self_at r.at hx hd hme fun ix dx hI=>setf_at r.at hI h2 hp r.rep fun z=>(q.step (z.back r.inv r.kp).inv (z.back r.inv r.kp).stp).now rfl) (no_swap hs _ _ _)
theorem augI_at (y:At G c) {o:Bop} {u t v:AV} {a b:Value} {R:Value→Shared→Prop} (e:augV o u t = some v) (ra:y.rep u a) (rb:y.rep t b) (q:∀ i,v = ai i→R (.int i y.s.toks) { y.s with toks:=y.s.toks+1 }):Wp y (inplaceOp (opOf o) a b) R:=
  onI_el e (fun i e ra=>onI_el e (fun j e rb=>map_el e fun z hz e=>by
    obtain ⟨t,rfl⟩:=ra
    obtain ⟨u,rfl⟩:=rb
    cases o with
    | add=>cases hz;exact P.iadd_int (q _ e.symm)
    | sub=>cases hz;exact P.isub_int (q _ e.symm)
    | _=>cases hz) (fun e _=>none_el e) rb) (fun e _=>none_el e) ra
theorem atOf_el {o:Option AV} {b:Atom} (h:atOf o = some b):o = some (.at b):=bind_el h fun v hv h=>onA_el (P:=fun v=>o = some v→o = some (.at b)) h (fun a h e=>by cases h;exact e) (fun h _=>none_el h) hv
theorem Inv.tk {w:World} {B:Heap} {S:Sit} {g:Option Addr} {σ:AS} {s:Shared} (V:Inv w B S g σ s) (t:Nat):Inv w B S g σ { s with toks:=t }:=V.keep fun _ _ e=>e
theorem ss_augf {a:Expr} {e:CE} {p p' p'':Pos} {N:Nat} {i:Nat} {o:Bop} {x nm:Str} (hx:c.names[0]? = some x) (hd:x ≠ sName "__debug__") (h2:fnames[i]? = some nm) (h:OK G c a e):SS G c (.AugAssign (.Attribute (.Name x p) nm p') (opOf o) a p'') (evS tabs G.Γ N (.augf i o e)):=
  fun y hg _ _ Q he q=>selfif_el he fun hme he=>bind_el he fun b hb he=>ob_el he fun t fl e1 he=>bind_el he fun z hz he=>yif_el he fun hp he=>by
    cases he
    refine wpAny_AugAssign_AttributeAny (self_at y hx hd hme fun ix dx hI=>getf_at y hI h2 hb fun old ro _=>?_)
    refine h.se (y.to (y.inv.tk (y.s.toks+1))) fl t _ e1 fun r=>?_
    refine augI_at r.at (atOf_el hz) (u:=.at b) ro r.rep fun j hj=>?_
    cases hj
    exact setf_at (r.at.to (r.inv.tk _)) hI h2 hp ⟨_,rfl⟩ fun z=>(q.step z.inv (Res.stp (x:=y) (v:=.at (.cst .none)) ⟨.none,z.s,z.inv,r.kp.trans z.kp,rfl⟩)).now rfl
theorem ss_aug {a:Expr} {e:CE} {p p'':Pos} {N:Nat} {i:Nat} {o:Bop} {nm:Str} (L:Loc c i nm) (hd:nm ≠ sName "__debug__") (h:OK G c a e):SS G c (.AugAssign (.Name nm p) (opOf o) a p'') (evS tabs G.Γ N (.aug i o e)):=
  fun y hg _ _ Q he q=>bind_el he fun v hv he=>ob_el he fun t fl e1 he=>map_el he fun z hz he=>by
    cases he
    refine wpAny_AugAssign_Name ?_
    refine y.read L.nmi hv fun old e2 ro=>?_
    have hok:okSet i ⟨y.σ.loc,fl⟩ = true:=by
      unfold okSet
      rw [locGet_is hv]
      exact onI_el (P:=fun v=>(match (some (some v):Option (Option AV)) with | some (some (.own _))=>false | some _=>true | none=>false) = true) (atOf_el hz) (fun _ _=>rfl) (fun h=>none_el h)
    have go:Wp y (eval a y.S.env) fun v s₂=>wpAny (model pw G.w) y.S.A (inplaceOp (opOf o) old v) (fun r s₃=>wpAny (model pw G.w) y.S.A (storeName y.S.env nm r) (fun _=>Q .next) y.E s₃) y.E s₂:=
      h.se y fl t _ e1 fun r=>augI_at r.at (atOf_el hz) (ro.kp y.inv.toHInv r.kp) r.rep fun j hj=>by
        cases hj
        exact store_at (r.at.to (r.inv.tk _)) hg L (v:=ai j) hok ⟨_,rfl⟩ rfl fun s' T=>(q.step T.inv (r.stp.trans T.stp)).now rfl
    rcases e2 with ⟨hk,m,hn,hm⟩ | ⟨hk,b,hb,oo,ho,hd⟩
    · exact wpAny_loadName_local y.good.kind hk hn hm go
    · exact wpAny_loadName_cell y.good.kind hk hb ⟨oo,ho,hd⟩ go
theorem drop_ok {w:World} {f:Expr} {xs:List Expr} {kws:List Keyword} {p:Pos} {pos:Pos} {v:Value} {A:Around} {E:Value→Shared→Prop} {s:Shared} {Q:Flow→Shared→Prop} (q:Q .next s):wpAny (model pw w) A (dropValue (.Call f xs kws p) pos v) Q E s:=by
  cases v with
  | ref a=>exact wpAny_bind (wpAny_standAt (wpAny_bind (wpAny_runValue (codeAny_builtin entry_let_go (show wpAny _ _ (ret .none) _ _ s from wpAny_pure (wpAny_pure q))))))
  | _=>exact wpAny_pure q
theorem At.inter (x:At G c):interactive x.S.env = false:=by unfold interactive;rw [x.good.kind];rfl
theorem ss_expr {f:Expr} {xs:List Expr} {kws:List Keyword} {e:CE} {p p':Pos} {N:Nat} (h:OK G c (.Call f xs kws p') e):SS G c (.Expr (.Call f xs kws p') p) (evS tabs G.Γ N (.expr e)):=
  fun y hg _ _ Q he q=>ob_el he fun t fl e1 he=>by
    cases he
    rw [exec_Expr _ _ _ y.inter rfl]
    exact wpAny_bind (wpAny_standAt (wpAny_bind (h.se y fl t _ e1 fun r=>drop_ok ((q.res r).now rfl))))
theorem or_false {a b:Bool} (h:(a || b) = false):a = false∧b = false:=Bool.or_eq_false_iff.mp h
theorem not_false' {a:Bool} (h:(!a) = false):a = true:=by cases a<;>first | rfl | cases h
theorem ss_assign {a:Expr} {e:CE} {p p':Pos} {N i:Nat} {nm:Str} (L:Loc c i nm) (hs:swapFree a = true) (h:OK G c a e):SS G c (.Assign [.Name nm p] a p') (evS tabs G.Γ N (.assign i e)):=
  fun y hg _ _ Q he q=>ob_el he fun t fl e1 he=>nif_el he fun hc he=>by
    cases he
    exact wpAny_Assign_Name (h.se y fl t _ e1 fun r=>store_at r.at hg L (not_false' (or_false hc).2) r.rep (isSt_dr (not_false' (or_false hc).1)) fun s' T=>(q.step T.inv (r.stp.trans T.stp)).now rfl) (no_swap hs _ _ _)
end Mine
namespace Mine
theorem Inv.but {w:World} {B:Heap} {S:Sit} {g:Option Addr} {σ:AS} {s:Shared} {C:Addr} {h':Heap} {tk:Nat} (V:Inv w B S g σ s) (F:Free B S.fr S.inst C) (hl:C ≠ S.env.locals) (hC:(∀ o,s.heap.get? C = some o→∀ vs k,o.data ≠ .seq vs k)∧∀ o,s.heap.get? C = some o→∀ v,o.data ≠ .cell v) (k:Heap.ExtBut C s.heap h'):Inv w B S g σ { s with heap:=h',toks:=tk }:=
  have kl:∀ m,s.heap.Ns S.env.locals m→h'.Ns S.env.locals m:=fun m hm=>hm.extBut k (Ne.symm hl)
  { toHInv:=V.toHInv.but F k
    loc:=let ⟨m,hm⟩:=V.loc;⟨m,kl m hm⟩
    vars:=fun j u hu=>let ⟨y,z,e1,e2,e3⟩:=V.vars j u hu;⟨y,z,e1,e2.butC hC.2 kl k,e3.butC (V.dr j u hu) hC.1 k⟩
    dr:=V.dr
    len:=V.len
    ld:=V.ld
    gown:=fun a e=>let ⟨h1,h2,h3,h4,h5,vs,h6⟩:=V.gown a e
      ⟨h1,h2,h3,h4,h5,vs,h6.butC (fun z=>let ⟨o,n,e1,_,_,e4⟩:=h6;hC.1 o (z▸e1) _ _ e4) k⟩
    gens:=V.gens
    os:=V.os }
variable {G:Gl} {c:Cx}
noncomputable def CU (G:Gl) (c:Cx) (ex:Expr) (gens:List Comprehension) (sc:Scope) (pos:Pos) (d:Den):Prop:=∀ (y:At G c) fl v (use:Option (Value→Sem Unit)) (Q:Value→Shared→Prop),d y.σ = some (v,fl)→(∀ r:Res y fl v,usePost y use Q r.val r.s)→
  Wp y (comprehension (.ListComp ex gens sc pos) sc y.S.env (firstIterPos gens pos) (newList []) (firstAsync gens) (firstIter gens y.S.env) use) Q
theorem cu_toComp {rec:Cx→Expr→CE} (hr:∀ c e,OK G c e (rec c e)) (ex:Expr) (gens:List Comprehension) (sc:Scope) (p:Pos):CU G c ex gens sc p (evE tabs G.Γ (toComp rec c ex gens sc)):=by
  intro y fl v use Q he q
  unfold toComp at he
  cases hz:genE gens with
  | none=>rw [hz] at he;cases he
  | some z=>
    rw [hz] at he
    change evE tabs G.Γ (guardE _ _) y.σ = _ at he
    cases hb:scOk c z.1 (capsIn c sc) sc && notSet z.2.2.1 with
    | false=>rw [hb] at he;cases he
    | true=>
      rw [hb] at he
      rw [genE_el hz]
      obtain ⟨t,px,it,ifs⟩:=z
      match ifs,he with
      | [],he=>exact comp_at y (hr ..) (and_l hb) (and_r hb) (hr ..).se tc_nil he q
      | [cd],he=>exact comp_at y (hr ..) (and_l hb) (and_r hb) (hr ..).se (tc_one (hr ..)) he q
      | _ :: _ :: _,he=>cases he
noncomputable def swapOk (nm:Str) (px pos:Pos) (sc:Scope):Bool:=px.line == pos.line && !(sc.names.any fun x=>x.1 == nm && (x.2 == .local || x.2 == .cell))
theorem ss_assignC {ex:Expr} {gens:List Comprehension} {sc:Scope} {pos px p':Pos} {e:CE} {N i:Nat} {nm:Str} (L:Loc c i nm) (hs:swapOk nm px pos sc = true) (h:CU G c ex gens sc pos (evE tabs G.Γ e)):SS G c (.Assign [.Name nm px] (.ListComp ex gens sc pos) p') (evS tabs G.Γ N (.assign i e)):=
  fun y hg _ _ Q he q=>ob_el he fun t fl e1 he=>nif_el he fun hc he=>by
    cases he
    have hsw:swapsWith (.ListComp ex gens sc pos) (some (.Name nm px)) p'.line y.S.env = pure true:=by
      show (pure (y.S.env.blockKind == .function && y.S.env.kindOf nm == some .local && px.line == pos.line && !(sc.names.any fun (n,k)=>n == nm && (k == .local || k == .cell))):Sem Bool) = pure true
      have e1:y.S.env.blockKind = .function:=by unfold Env.blockKind;rw [y.good.kind];rfl
      rw [e1,L.at y,and_l hs]
      have:=and_r hs
      rw [this];rfl
    rw [exec_Assign_Name_used _ _ _ _ hsw]
    refine wpAny_bind (wpAny_standAt (wpAny_bind ?_))
    show wpAny _ _ (do let _ ←comprehension (.ListComp ex gens sc pos) sc y.S.env (firstIterPos gens pos) (newList []) (firstAsync gens) (firstIter gens y.S.env) (some (assign (.Name nm px) y.S.env))) _ _ y.s
    refine wpAny_bind (wpAny_mono (h y fl t (some (assign (.Name nm px) y.S.env)) (fun _ s'=>Q .next s') e1 fun r C X=>?_) (fun _ s' hq=>wpAny_pure (wpAny_pure hq)) fun _ _ e=>e)
    refine wpAny_assign_Name (store_at r.at hg L (not_false' (or_false hc).2) r.rep (isSt_dr (not_false' (or_false hc).1)) fun s₂ T=>?_)
    obtain ⟨m,hm⟩:=X.ns
    have hm2:s₂.heap.Ns C m:=hm.at' fun o e=>T.but C o X.ne e
    refine ⟨⟨m,hm2⟩,fun h' hs=>?_⟩
    exact (q.step (T.inv.but (tk:=s₂.toks) X.free X.ne (ns_noseq hm2) hs.extBut) ((r.stp.trans T.stp).fresh X.new fun b o hb e=>hs.extBut b o hb e)).now rfl
theorem okSet_set {σ:AS} {i j:Nat} {a:Atom} {fl:FL} (h:okSet j σ = true):okSet j ⟨σ.loc.set i (some (.at a)),fl⟩ = true:=by
  unfold okSet at h ⊢
  simp only
  by_cases hij:i = j
  · subst hij
    cases hlt:σ.loc[i]? with
    | none=>rw [hlt] at h;cases h
    | some z=>rw [List.getElem?_set_self (List.getElem?_eq_some_iff.mp hlt).1]
  · rw [List.getElem?_set_ne hij];exact h
theorem tup2_el {v:AV} {k:Atom→Atom→Option (AS × Out)} {r:AS × Out} {P:AV→Prop} (h:tup2 v k = some r) (q:∀ a b,k a b = some r→P (.tup [a,b])):P v:=by
  unfold tup2 at h
  split at h
  · exact q _ _ h
  · cases h
theorem Reps.two_el {I:Option (Addr × Addr)} {a b:Atom} {vs:Array Value} {P:Array Value→Prop} (h:Reps I [a,b] vs.toList) (q:∀ x y,RepA I a x→RepA I b y→P #[x,y]):P vs:=by
  obtain ⟨l⟩:=vs
  cases h with
  | cons ra h=>cases h with
    | cons rb h=>cases h;exact q _ _ ra rb
theorem unpack_at (y:At G c) (hg:GS y.S) {p1 p2 p3:Pos} {k i j:Nat} {n1 n2:Str} (L1:Loc c i n1) (L2:Loc c j n2) {va vb:Atom} {val:Value} (ok1:okSet i y.σ = true) (ok2:okSet j y.σ = true) (r:y.rep (.tup [va,vb]) val) {R:Unit→Shared→Prop}
    (q:∀ s',Inv G.w G.B y.S y.g (bindV j (.at vb) (bindV i (.at va) y.σ y.σ.fl) y.σ.fl) s'→Stp y.S y.g y.g y.s.heap s'.heap→R () s'):Wp y (assign (.Tuple [.Name n1 p1,.Name n2 p2] k p3) y.S.env val) R:=by
  obtain ⟨t,vs,rfl,hgt,⟨o,m,hoT,hcT,hdT⟩,hr⟩:=r
  refine assign_Tuple_tuple (items:=vs) y.good.handled ⟨o,hoT,hcT,m,hdT⟩ (by rw [←Array.length_toList,hr.len];rfl) rfl fun h' hs=>?_
  have kp:∀ b o,y.s.heap.get? b = some o→h'.get? b = some o:=fun b o e=>hs b o (by rintro rfl;rw [get_size] at e;cases e) e
  exact Reps.two_el (P:=fun vs=>wpAny (model pw G.w) y.S.A (assignInOrder ((assignEach [.Name n1 p1,.Name n2 p2] y.S.env).map fun (x:Bool × (Value→Sem Unit))=>x.2) vs.toList) R y.E { y.s with heap:=h' }) hr fun x z ra rb=>
    assignInOrder_cons (assign_Name (store_at (y.go (y.inv.keep (s':={ y.s with heap:=h' }) kp)) hg L1 (v:=.at va) ok1 ra rfl fun s₃ T3=>
      assignInOrder_cons (assign_Name (store_at (y.go T3.inv) hg L2 (v:=.at vb) (okSet_set ok2) rb rfl fun s₄ T4=>assignInOrder_nil (q s₄ T4.inv ((Stp.keep kp).trans (T3.stp.trans T4.stp)))))))
theorem ss_assign2 {f:Expr} {xs:List Expr} {kws:List Keyword} {e:CE} {p p1 p2 p3 p4:Pos} {k N i j:Nat} {n1 n2:Str} (L1:Loc c i n1) (L2:Loc c j n2) (h:OK G c (.Call f xs kws p) e):SS G c (.Assign [.Tuple [.Name n1 p1,.Name n2 p2] k p3] (.Call f xs kws p) p4) (evS tabs G.Γ N (.assign2 i j e)):=
  fun y hg _ _ Q he q=>ob_el he fun t fl e1 he=>tup2_el (P:=fun v=>evE tabs G.Γ e y.σ = some (v,fl)→_) he (fun va vb he e1=>yif_el he fun hok he=>by
    cases he
    exact Assign_Tuple (h.se y fl (.tup [va,vb]) _ e1 fun r=>unpack_at r.at hg L1 L2 (and_l hok) (and_r hok) r.rep fun s' V y'=>(q.step V (r.stp.trans y')).now rfl)) e1
end Mine
namespace Mine
theorem Rep.regrow {w:World} {fr:List Env} {I:Option (Addr × Addr)} {h:Heap} {v:AV} {val:Value} {D:Addr} (r:Rep w fr I none h v val) (hv:v.isDR = false) (hD:h.get? D = none):Rep w fr I (some D) h v val:=by
  have no:∀ {a:Addr} {o:Obj},h.get? a = some o→some D ≠ some a:=fun e q=>by cases q;rw [hD] at e;cases e
  cases v with
  | «at» a=>exact r
  | list l=>obtain ⟨a,vs,e,n,x,q⟩:=r;exact ⟨a,vs,e,(let ⟨o,ho,_⟩:=x;no ho),x,q⟩
  | tup l=>obtain ⟨a,vs,e,n,x,q⟩:=r;exact ⟨a,vs,e,(let ⟨o,_,ho,_⟩:=x;no ho),x,q⟩
  | own l=>obtain ⟨a,vs,e,n,x,q⟩:=r;cases n
  | _=>cases hv
theorem hasOwn_new {l:List (Option AV)} {i:Nat} {k:List Atom} {fl:FL} (h:i < l.length):hasOwn ⟨l.set i (some (.own k)),fl⟩ = true:=by
  unfold hasOwn
  rw [List.any_eq_true]
  exact ⟨_,List.mem_of_getElem? (List.getElem?_set_self h),rfl⟩
variable {G:Gl} {c:Cx}
theorem okSet_lt {i:Nat} {σ:AS} (h:okSet i σ = true):i < σ.loc.length:=by
  unfold okSet at h
  cases e:σ.loc[i]? with
  | none=>rw [e] at h;cases h
  | some _=>exact (List.getElem?_eq_some_iff.mp e).1
theorem ss_newOwn {p p' p'':Pos} {N i:Nat} {nm:Str} (L:Loc c i nm):SS G c (.Assign [.Name nm p] (.List [] p') p'') (evS tabs G.Γ N (.newOwn i)):=
  fun y hg _ _ Q he q=>nif_el he fun hc he=>by
    cases he
    have hgn:=gnone y.inv (or_false hc).1
    obtain ⟨S,g,σ,s,E,ctx,good,inv⟩:=y
    cases hgn
    have k0:∀ b o,s.heap.get? b = some o→(s.heap.push { cls:=.type "list",data:=.seq ([]:List Value).toArray }).get? b = some o:=fun b o e=>Heap.get?_push_of_some _ e
    refine wpAny_Assign_Name (wpAny_List (Calls.spliced_nil ⟨Nat.zero_le _,?_⟩)) rfl
    obtain ⟨m0,hn0⟩:=inv.loc
    refine sto_at ⟨S,none,σ,s,E,ctx,good,inv⟩ L ⟨m0,hn0.keeps k0⟩ fun h' m tk T=>?_
    have hD:=get_size s.heap
    have F:=Free.of inv.toHInv hD
    have hDL:s.heap.objs.size ≠ S.env.locals:=by rintro e;obtain ⟨o,_,_,ho,_⟩:=hn0;rw [←e,hD] at ho;cases ho
    have k:∀ b o,b ≠ S.env.locals→s.heap.get? b = some o→h'.get? b = some o:=fun b o hb e=>T.but b o hb (k0 b o e)
    have hO:OwnIs h' s.heap.objs.size #[]:=OwnIs.butC (h:=s.heap.push { cls:=.type "list",data:=.seq ([]:List Value).toArray }) ⟨_,_,Heap.get?_push_size _ rfl,rfl,rfl,rfl⟩ hDL T.but
    have U:Upd ⟨S,none,σ,s,E,ctx,good,inv⟩ i nm (.own []) (.ref s.heap.objs.size) (some s.heap.objs.size) { s with heap:=h',toks:=tk }:=
      ⟨L.nmi,hinv_loc (n:=G.n) hg good.newL inv.toHInv k ⟨m,T.ns⟩,⟨m,T.ns⟩,.inl ⟨L.at ⟨S,none,σ,s,E,ctx,good,inv⟩,m,T.ns,T.new⟩,⟨_,#[],rfl,rfl,hO,.nil⟩,rfl,
        fun y z hy r=>T.old y z hy (r.kp inv.toHInv inv.ld (.of_keep k0)),fun j u z _ _ hu ru=>(ru.regrow hu hD).butC hu (ns_noseq hn0).1 k,
        fun a e=>by cases e;exact ⟨hasOwn_new (okSet_lt (not_false' (or_false hc).2)),hDL,F.dl,F.f,F.b,#[],hO⟩,inv.gens,inv.os⟩
    have st:=Sto.stp T none
    exact (q.step U.inv ⟨(Stp.trans (.keep k0) st).kp,.inr ⟨_,rfl,hD⟩,(Stp.trans (.keep k0) st).ex⟩).now rfl
theorem append_ok {w:World} {s:Shared} {E:Value→Shared→Prop} {l:Addr} {items:Array Value} {x:Value} {Q:Value→Shared→Prop} {A:Around} (hl:OwnIs s.heap l items)
    (hQ:∀ h',OwnIs h' l (items.push x)→Heap.SameBut l s.heap h'→Q .none { s with heap:=h' }) (hsz:items.size ≤ sizeLine) :
    wpAny (model pw w) A (call (.builtin "list.append") [.ref l,x]) Q E s:=by
  obtain ⟨o,n,ho,hc,hdd,hd⟩:=id hl
  obtain ⟨n',hd'⟩:=Obj.data_mapSeq hd (·.push x)
  refine wpAny_call_entry slot_list_append ⟨o,ho,hc⟩ entry_list_append ?_ (args_list_append _ _)
  show wpAny _ _ (updateSeq l (·.push x) >>= fun _=>ret .none) _ _ s
  refine wpAny_bind ?_
  refine wpAny_updateSeq ho hd (wpAny_pure ⟨.none,rfl,hQ _ ?_ (Heap.SameBut.update ..)⟩)
  refine ⟨_,n',Heap.get?_update_self _ ho (Obj.isFreed_of_seq hd'),(Obj.cls_mapSeq ..).trans hc,?_,hd'⟩
  rw [←hdd];obtain ⟨c0,d0,x0,s0⟩:=o;simp only at hd;subst hd;rfl
theorem Rep.grown {w:World} {fr:List Env} {I:Option (Addr × Addr)} {h h':Heap} {v:AV} {val:Value} {D:Addr} (r:Rep w fr I (some D) h v val) (hv:v.isDR = false) (ho:v.isOwn = false) (k:∀ b o,b ≠ D→h.get? b = some o→h'.get? b = some o):Rep w fr I (some D) h' v val:=by
  cases v with
  | «at» a=>exact r
  | list l=>obtain ⟨b,ws,e,hne,⟨o,ho,hc,m,hd⟩,q⟩:=r;exact ⟨b,ws,e,hne,⟨o,k b o (fun z=>hne (by rw [z])) ho,hc,m,hd⟩,q⟩
  | tup l=>obtain ⟨b,ws,e,hne,⟨o,m,ho,hc,hd⟩,q⟩:=r;exact ⟨b,ws,e,hne,⟨o,m,k b o (fun z=>hne (by rw [z])) ho,hc,hd⟩,q⟩
  | own l=>cases ho
  | _=>cases hv
theorem own_uniq {h:Heap} {a:Addr} {vs ws:Array Value} (x:OwnIs h a vs) (y:OwnIs h a ws):ws = vs:=by
  obtain ⟨o2,n2,ho2,hc2,hd2,hdat2⟩:=x
  obtain ⟨o3,n3,ho3,hc3,hd3,hdat3⟩:=y
  cases ho2.symm.trans ho3
  cases hdat2.symm.trans hdat3;rfl
theorem hasOwn_no {σ:AS} {i j:Nat} {u:AV} {fl:FL} (h:hasOwn ⟨σ.loc.set i none,fl⟩ = false) (hj:j ≠ i) (hu:σ.loc[j]? = some (some u)):u.isOwn = false:=by
  unfold hasOwn at h
  rw [List.any_eq_false] at h
  have:=h (some u) (List.mem_of_getElem? (i:=j) ((List.getElem?_set_ne (Ne.symm hj)).trans hu))
  exact Bool.eq_false_iff.mpr this
theorem grow_at (y:At G c) {D:Addr} (hgD:y.g = some D) {i:Nat} {nm:Str} (hx:c.names[i]? = some nm) {l:List Atom} {a:Atom} {val:Value} {vs:Array Value} {h':Heap} (hl:locGet y.σ i = some (.own l)) (hno:hasOwn ⟨y.σ.loc.set i none,y.σ.fl⟩ = false) (ra:RepA y.S.inst a val)
    (hO:OwnIs y.s.heap D vs) (hO':OwnIs h' D (vs.push val)) (hs:Heap.SameBut D y.s.heap h'):Inv G.w G.B y.S (some D) ⟨y.σ.loc.set i (some (.own (l ++ [a]))),y.σ.fl⟩ { y.s with heap:=h' }:=by
  obtain ⟨g1,g2,g3,g4,g5,_⟩:=y.inv.gown D hgD
  have kk:∀ b o,b ≠ D→y.s.heap.get? b = some o→h'.get? b = some o:=fun b o hb e=>hs.extBut b o hb e
  have kl:∀ m,y.s.heap.Ns y.S.env.locals m→h'.Ns y.S.env.locals m:=fun m hm=>hm.sameBut hs g2.symm
  have hlt:i < y.σ.loc.length:=(List.getElem?_eq_some_iff.mp (locGet_is hl)).1
  obtain ⟨o2,n2,ho2,hc2,hd2,hdat⟩:=id hO
  have F:Free G.B y.S.fr y.S.inst D:=⟨g5,g4,fun x dx hI=>⟨by (rintro rfl;cases ho2.symm.trans (y.inv.inst D dx hI).obj;cases hc2),by (rintro rfl;exact g3 (by rw [hI];exact .head _))⟩⟩
  have hcell:∀ o,y.s.heap.get? D = some o→∀ v,o.data ≠ .cell v:=fun o e v hd=>by cases ho2.symm.trans e;cases hdat.symm.trans hd
  refine y.read hx hl fun val0 e2 e3=>?_
  obtain ⟨D',vs',rfl,hD',hO3,hr3⟩:=e3
  cases hgD.symm.trans hD'
  cases own_uniq hO hO3
  obtain ⟨m0,hn0⟩:=y.inv.loc
  have U:Upd y i nm (.own (l ++ [a])) (.ref D) (some D) { y.s with heap:=h' }:=
    ⟨hx,y.inv.toHInv.but F kk,⟨m0,kl m0 hn0⟩,e2.butC hcell kl kk,⟨D,_,rfl,rfl,hO',by rw [Array.toList_push];exact hr3.append (.cons ra .nil)⟩,rfl,
      fun z v _ r=>r.butC hcell kl kk,fun j u z hj hu hdr ru=>Rep.grown (hgD▸ru) hdr (hasOwn_no hno hj hu) kk,fun b e=>by cases e;exact ⟨hasOwn_new hlt,g2,g3,g4,g5,_,hO'⟩,y.inv.gens,y.inv.os⟩
  exact U.inv
theorem ownOf_el {o:Option AV} {b:List Atom} (h:ownOf o = some b):o = some (.own b):=bind_el h fun v hv h=>onO_el (P:=fun v=>o = some v→o = some (.own b)) h (fun a h e=>by cases h;exact e) (fun h _=>none_el h) hv
theorem ss_append {a:Expr} {e:CE} {p p' p'' p3:Pos} {N i:Nat} {nm:Str} (hx:c.names[i]? = some nm) (hd:nm ≠ sName "__debug__") (hp:(p'.endLine == p''.line) = true) (hs:notStar a = true) (h:OK G c a e):SS G c (.Expr (.Call (.Attribute (.Name nm p) (sName "append") p') [a] [] p'') p3) (evS tabs G.Γ N (.append i e)):=
  fun y hg _ _ Q he q=>obA_el he fun b fl e1 he=>bind_el he fun l hl he=>yif_el he fun hc he=>by
    cases he
    have hl:=ownOf_el hl
    rw [exec_Expr _ _ _ y.inter rfl]
    refine wpAny_bind (wpAny_standAt (wpAny_bind ((arm_eval_Call ..).symm▸wpAny_bind (var_at y hx hd hl fun vo ro=>wpAny_bind (wpAny_standAt ?_)))))
    obtain ⟨D,vs,rfl,hgD,hO,hr⟩:=ro
    obtain ⟨oD,nD,hoD,hcD,hdD,hdata⟩:=id hO
    refine meth_at y (first:=[.ref D]) (fv:=.builtin "list.append") (sa_cons h sa_nil hs) (all_one hs) (show 1 < 29 by decide) hp (A1 e1) (fun pl R hr=>Calls.getMethod_list_append hoD hcD hdD hr) (fun h _=>kept_b _ h _) fun r=>?_
    refine r.rep.one (P:=fun l=>wpAny (model pw G.w) y.S.A (call (.builtin "list.append") (Value.ref D :: l)) _ y.E r.s) fun val ra=>?_
    obtain ⟨g1,g2,g3,g4,g5,_⟩:=y.inv.gown D hgD
    obtain ⟨sl,e'⟩:=r.kp.slots D oD hoD g3
    have hO₂:OwnIs r.s.heap D vs:=⟨_,nD,e',hcD,hdD,hdata⟩
    refine append_ok hO₂ (fun h' hO' hs=>drop_ok ?_) (by rw [←Array.length_toList,hr.len];exact small_le (and_l hc))
    have hst:Stp y.S y.g y.g y.s.heap r.s.heap:=Res.stp (x:=y) (v:=.at (.cst .none)) ⟨.none,r.s,r.inv,r.kp,rfl⟩
    have hV:=grow_at r.at (D:=D) hgD hx (a:=b) hl ((Bool.not_eq_true' _).mp (and_r hc)) ra hO₂ hO' hs
    refine (q.step hV ?_).now rfl
    rw [hgD] at hst ⊢
    exact hst.trans (.but (fun b o hb e=>hs.extBut b o hb e) (.tail _ (List.mem_append_left _ (.head _))) (let ⟨o,_,ho,_⟩:=hO';⟨o,ho⟩))
end Mine
namespace Mine
theorem loopK_el {o:Option (AS × Out)} {k:AS→Option (AS × Out)} {σ':AS} {out:Out} {P:Prop} (h:loopK o k = some (σ',out)) (q1:∀ σ₁ o₁,(o₁ = .next ∨ o₁ = .cont)→o = some (σ₁,o₁)→k σ₁ = some (σ',out)→P) (q2:out = .next→o = some (σ',.brk)→P) (q3:((∃ v,out = .ret v) ∨ ∃ k,out = .exc k)→o = some (σ',out)→P):P:=by
  cases o with
  | none=>cases h
  | some p=>obtain ⟨σ₁,o⟩:=p;cases o with
    | next=>exact q1 σ₁ _ (.inl rfl) rfl h
    | cont=>exact q1 σ₁ _ (.inr rfl) rfl h
    | brk=>cases h;exact q2 rfl rfl
    | ret v=>cases h;exact q3 (.inl ⟨v,rfl⟩) rfl
    | exc k=>cases h;exact q3 (.inr ⟨k,rfl⟩) rfl
variable {G:Gl} {c:Cx}
section
variable (y:At G c) (Q:Flow→Shared→Prop)
noncomputable def lR (r:Result) (s':Shared):Prop:=match r with
  | .ok f=>Q f s'
  | .error e=>cameBackBy (model pw G.w) y.S.A y.S.env y.E e s'
noncomputable def lE:Value→Shared→Prop:=notedBy (model pw G.w) y.S.A y.S.env fun e s'=>lR y Q (.error e) s'
noncomputable def lF (nx:Shared→Prop) (f:Flow) (s:Shared):Prop:=match f with
  | .next | .cont=>nx s
  | .brk=>lR y Q (.ok .next) s
  | .ret v=>lR y Q (.ok (.ret v)) s
end
theorem Ex.out {y:At G c} (hg:GS y.S) {Q:Flow→Shared→Prop} {g:Option Addr} {σ:AS} {h0:Heap} {s:Shared} (V:Inv G.w G.B y.S g σ { s with heap:=h0 }) {k:Nat} {e:Addr} (x:Ex y.S y.S.env.locals k e h0 s.heap) (q:∀ h',Ex y.S y.S.env.locals k e h0 h'→y.E (.ref e) { s with heap:=h' }):lE y Q (.ref e) s:=by
  obtain ⟨outer,houter⟩:=hg.outer
  exact note_ok houter y.good.stack hg.frame V.toHInv x fun h' hh=>back_ok (s:={ s with heap:=h' }) hg.frame hh fun h'' hh'=>q h'' (.inr hh')
theorem lF_go {w:World} {S:Sit} {g:Option Addr} {h:Heap} {y:At G c} {Q:Flow→Shared→Prop} {nx:Shared→Prop} {o:Out} {f:Flow} {s:Shared} (ho:o = .next ∨ o = .cont) (hf:OutIs w S g h o f) (q:nx s):lF y Q nx f s:=by
  rcases ho with rfl | rfl<;>cases hf<;>exact q
theorem lF_out {w:World} {S:Sit} {g:Option Addr} {h:Heap} {y:At G c} {Q:Flow→Shared→Prop} {nx:Shared→Prop} {o:Out} {f:Flow} {s:Shared} (ho:(∃ v,o = .ret v) ∨ ∃ k,o = .exc k) (hf:OutIs w S g h o f) (q:Q f s):lF y Q nx f s:=by
  rcases ho with ⟨v,rfl⟩ | ⟨k,rfl⟩
  · obtain ⟨val,rfl,_⟩:=hf;exact q
  · exact hf.elim
theorem body_at (y:At G c) (hg:GS y.S) {σ':AS} {out:Out} {Q:Flow→Shared→Prop} (q:PS y σ' out Q) {b:List Stmt} {N:Nat} {cb:CB} (hb:BS G c b (evB tabs G.Γ N cb)) {g:Option Addr} {σ:AS} {s:Shared} (V:Inv G.w G.B y.S g σ s) (st:Stp y.S y.g g y.s.heap s.heap) {k:AS→Option (AS × Out)} {nx:Shared→Prop}
    (he:loopK (evB tabs G.Γ N cb σ) k = some (σ',out)) (h:∀ g₁ σ₁ s₁,Inv G.w G.B y.S g₁ σ₁ s₁→Stp y.S g g₁ s.heap s₁.heap→k σ₁ = some (σ',out)→nx s₁):wpAny (model pw G.w) y.S.A (execs b y.S.env) (lF y Q nx) (lE y Q) s:=
  let x:At G c:=⟨y.S,g,σ,s,lE y Q,y.ctx,y.good,V⟩
  loopK_el he
    (fun σ₁ o₁ ho e1 e2=>hb x hg σ₁ o₁ _ e1 ⟨fun r=>lF_go ho r.out (h r.g σ₁ r.s r.inv r.stp e2),fun k hk=>by rcases ho with rfl | rfl<;>cases hk⟩)
    (fun ho e1=>hb x hg σ' .brk _ e1 ⟨fun r=>by cases ho;have hf:=r.out;cases r;cases hf;exact (q.step V st).ok ⟨_,_,.next,by assumption,by assumption,rfl⟩,fun k hk=>nomatch hk⟩)
    fun ho e1=>hb x hg σ' out _ e1 ⟨fun r=>lF_out ho r.out ((q.step V st).ok ⟨r.g,r.s,r.f,r.inv,r.stp,r.out⟩),fun k hk r=>Ex.out hg r.inv r.ex fun h' ex=>(q.step V st).exc k hk ⟨r.g,r.h0,r.e,{ r.s with heap:=h' },r.inv,r.stp,ex⟩⟩
theorem whileN_el {t:AS→Option (Bool × FL)} {b:Step} {n:Nat} {σ:AS} {r:AS × Out} {P:Prop} (h:whileN t b n σ = some r) (q1:∀ k fl,n = k+1→t σ = some (true,fl)→loopK (b ⟨σ.loc,fl⟩) (whileN t b k) = some r→P) (q2:∀ fl,t σ = some (false,fl)→(⟨σ.loc,fl⟩,Out.next) = r→P):P:=by
  cases n with
  | zero=>cases h
  | succ n=>exact otb_el h (fun fl e h=>q1 n fl rfl e h) fun fl e h=>q2 fl e (Option.some.inj h)
theorem ss_while {t:Expr} {b:List Stmt} {p:Pos} {N:Nat} {e:CE} {cb:CB} (h:OK G c t e) (hb:BS G c b (evB tabs G.Γ N cb)):SS G c (.While t b [] p) (evS tabs G.Γ N (.while e cb)):=
  fun y hg σ' out Q he q=>wpAny_While (codeAny_whileLoop (R:=lR y Q) (fun k s'=>∃ g σ₁,Inv G.w G.B y.S g σ₁ s'∧Stp y.S y.g g y.s.heap s'.heap∧whileN (evT tabs G.Γ e) (fun σ=>evB tabs G.Γ N cb σ) k σ₁ = some (σ',out))
    (fun k s' ⟨g,σ₁,V,st,he⟩=>
      let x:At G c:=⟨y.S,g,σ₁,s',lE y Q,y.ctx,y.good,V⟩
      whileN_el he (fun k fl e0 e1 e2=>test_at h x e1 fun r=>body_at y hg q hb r.inv (st.trans r.stp) e2 fun g₁ σ₂ s₁ V₁ y₁ e3=>⟨k,e0▸Nat.lt_succ_self _,g₁,σ₂,V₁,(st.trans r.stp).trans y₁,e3⟩)
        fun fl e1 e2=>test_at h x e1 fun r=>by cases e2;exact wpAny_execs_nil ((q.step r.inv (st.trans r.stp)).now rfl)) N ⟨y.g,y.σ,y.inv,.refl ..,he⟩)
end Mine
namespace Mine
theorem ItIs.obj {I:Option (Addr × Addr)} {g:Option Addr} {h:Heap} {a:Addr} {r:List Atom} (x:ItIs I g h a r):∃ o vs,h.get? a = some o∧o.data = .fields vs:=by
  cases x with
  | list ax vs i l h1=>obtain ⟨o,ho,_,hd⟩:=h1;exact ⟨o,_,ho,hd⟩
  | ascii x t i h1=>obtain ⟨o,ho,_,hd⟩:=h1;exact ⟨o,_,ho,hd⟩
  | wide x t i h1=>obtain ⟨o,ho,_,hd⟩:=h1;exact ⟨o,_,ho,hd⟩
  | range lo st k h1=>exact ⟨_,_,h1,rfl⟩
theorem ItIs.noseq {I:Option (Addr × Addr)} {g:Option Addr} {h:Heap} {a:Addr} {r:List Atom} (x:ItIs I g h a r):(∀ o,h.get? a = some o→∀ vs k,o.data ≠ .seq vs k)∧∀ o,h.get? a = some o→∀ v,o.data ≠ .cell v:=by
  obtain ⟨o2,vs,ho2,hd2⟩:=x.obj
  exact ⟨fun o e vs k hd=>(by cases ho2.symm.trans e;cases hd2.symm.trans hd),fun o e v hd=>(by cases ho2.symm.trans e;cases hd2.symm.trans hd)⟩
variable {G:Gl} {c:Cx}
structure FI (z:At G c) (I:Addr) (rest:List Atom) (g:Option Addr) (σ:AS) (s:Shared):Prop where
  it:ItIs z.S.inst g s.heap I rest
  gI:g ≠ some I
  inv:Inv G.w G.B z.S g σ s
  stp:Stp z.S z.g g z.s.heap s.heap
section
variable {z:At G c} {I:Addr} {rest:List Atom} {g g':Option Addr} {σ σ':AS} {s s':Shared}
theorem FI.stepI (F:FI z I rest g σ s) (hI:z.s.heap.get? I = none) {r:List Atom} {h':Heap} {tk:Nat} (it:ItIs z.S.inst g h' I r) (hs:Heap.ExtBut I s.heap h'):FI z I r g σ { s with heap:=h',toks:=tk }:=
  ⟨it,F.gI,F.inv.but (.of z.inv.toHInv hI) (z.ne_loc hI) F.it.noseq hs,F.stp.fresh hI hs⟩
theorem FI.run (F:FI z I rest g σ s) (hI:z.s.heap.get? I = none) (V:Inv G.w G.B z.S g' σ' s') (y:Stp z.S g g' s.heap s'.heap):FI z I rest g' σ' s':=by
  have Fr:Free G.B z.S.fr z.S.inst I:=.of z.inv.toHInv hI
  obtain ⟨m,hm⟩:=F.inv.loc
  refine ⟨F.it.keep (fun o e=>y.kp.exact I o e (dS_not (z.ne_loc hI) F.gI Fr.dl) Fr.f) (fun b o e _ hd hgb=>y.kp.slots b o e (dS_not ?_ hgb (not_dl_data F.inv.toHInv e fun es ep qq=>?_))) y.gf,?_,V,F.stp.trans y⟩
  · rintro rfl
    obtain ⟨vs,k,hd⟩:=hd
    exact (ns_noseq hm).1 o e vs k hd
  · obtain ⟨vs,k,hd⟩:=hd
    cases qq.symm.trans hd
  · obtain ⟨o,vs,ho,_⟩:=F.it.obj
    rcases y.gf with rfl | ⟨d,rfl,hd⟩
    · exact F.gI
    · intro e;cases e;rw [hd] at ho;cases ho
end
theorem for_turn (z:At G c) (hg:GS z.S) {I:Addr} (hI:z.s.heap.get? I = none) {i:Nat} {nm:Str} (L:Loc c i nm) {b:List Stmt} {N:Nat} {cb:CB} (hb:BS G c b (evB tabs G.Γ N cb)) {σ':AS} {out:Out} {Q:Flow→Shared→Prop} (q:PS z σ' out Q) {pz:Pos} (n:Nat) (s:Shared)
    (h:∃ rest g σ,FI z I rest g σ s∧forN i (fun σ=>evB tabs G.Γ N cb σ) rest σ = some (σ',out)∧n = rest.length+1) :
    wpAny (model pw G.w) z.S.A (pyNext (.ref I)) (fun r s₁=>match r with
      | none=>wpAny (model pw G.w) z.S.A (execs [] z.S.env) (fun f s₃=>lR z Q (.ok f) s₃) (lE z Q) s₁
      | some v=>wpAny (model pw G.w) z.S.A (assign (.Name nm pz) z.S.env v) (fun _ s₂=>wpAny (model pw G.w) z.S.A (execs b z.S.env) (lF z Q fun s₃=>∃ m,m < n∧∃ rest g σ,FI z I rest g σ s₃∧forN i (fun σ=>evB tabs G.Γ N cb σ) rest σ = some (σ',out)∧m = rest.length+1) (lE z Q) s₂) (lE z Q) s₁) (lE z Q) s:=by
  obtain ⟨rest,g,σ,F,he,rfl⟩:=h
  cases rest with
  | nil=>
    cases he
    exact next_none z.good.handled F.it fun h'' tk hs=>wpAny_execs_nil ((q.step (F.inv.but (.of z.inv.toHInv hI) (z.ne_loc hI) F.it.noseq hs) (F.stp.fresh hI hs)).now rfl)
  | cons a rest=>exact next_some F.it fun v h'' tk ra it hs=>iff_el he fun hok he=>
      have F1:=F.stepI (tk:=tk) hI it hs.extBut
      let x:At G c:=⟨z.S,g,σ,{ s with heap:=h'',toks:=tk },lE z Q,z.ctx,z.good,F1.inv⟩
      wpAny_assign_Name (store_at x hg L (v:=.at a) hok ra rfl fun s₃ T=>
        have F3:=F1.run hI T.inv T.stp
        body_at z hg q hb F3.inv F3.stp he fun g₄ σ₄ s₄ V₄ y₄ e=>⟨rest.length+1,Nat.lt_succ_self _,rest,g₄,σ₄,F3.run hI V₄ y₄,e,rfl⟩)
theorem ss_for {x:Expr} {b:List Stmt} {pz p:Pos} {N i:Nat} {nm:Str} {e:CE} {cb:CB} (L:Loc c i nm) (h:OK G c x e) (hns:notSet x = true) (hb:BS G c b (evB tabs G.Γ N cb)):SS G c (.For (.Name nm pz) x b [] p) (evS tabs G.Γ N (.for i e cb)):=
  fun y hg σ' out Q he q=>ob_el he fun v fl e1 he=>bind_el he fun its hits he=>wpAny_For (h.se y fl v _ e1 fun r=>iter_at r.at hits r.rep fun I h' hit hk hfr=>
    codeAny_forLoop (R:=lR r.at Q) _ (for_turn r.at hg hfr L hb (q.res r)) (its.length+1) ⟨its,y.g,_,⟨hit,fresh_g r.inv hfr,r.inv.keep hk,.keep hk⟩,he,rfl⟩) (notSet_folded hns)
end Mine
namespace Mine
theorem labDebug (k:Nat):(labName k == ("__debug__":Str)) = false:=by
  unfold labName;split<;>decide +kernel
theorem exc_other {M:Model} {A:Around} {h:Heap} {g:Array GenState} {d:Drawn} {t:Nat} {os:OsState} {e:Addr} {oe:Obj} {Q:Bool→Shared→Prop}
    {nm qn:Str} {C N:Addr} {bs bm:List Value} {hdct:Bool} {sn:List Str} {sub:List Value} {ab:Bool} {col:Option Bool} {dd:Option Addr} {k0 k1 k2 k3 k5:Option Value} {newId:String}
    {nm' qn':Str} {K N':Addr} {bs' bm':List Value} {hdct':Bool} {sn':List Str} {sub':List Value} {ab':Bool} {col':Option Bool} {dd':Option Addr} {l0 l1 l2 l3 l5:Option Value} {newId':String}
    (hC:h.get? C = some (excClassObj nm qn C N bs bm hdct sn sub ab col dd k0 k1 k2 k3 k5 newId))
    (hK:h.get? K = some (excClassObj nm' qn' K N' bs' bm' hdct' sn' sub' ab' col' dd' l0 l1 l2 l3 l5 newId')) (he:h.get? e = some oe) (hcls:oe.cls = .ref C)
    (hbase:bm'.contains (.type "BaseException") = true) (hno:(Value.ref C :: bm).contains (.ref K) = false)
    (hq:Q false ⟨h,g,d,t,os⟩):wpAny M A (excMatches (.ref e) (.ref K)) Q E ⟨h,g,d,t,os⟩:=by
  have hcB:(Value.ref K :: bm').contains (.type "BaseException") = true:=by rw [List.contains_cons,hbase,Bool.or_true]
  have f:=tc_notTuple
  unfold excMatches
  repeat (first | (with_reducible refine wpAny_loadPart_at he ?_;rw [hcls]) | with_reducible refine wpAny_loadPart_at hK ?_ | (with_reducible refine wpAny_isSubtype_exc hK ?_;rw [hcB]) | (with_reducible refine wpAny_isSubtype_exc hC ?_;rw [hno]) | wp_step)
  exact hq
variable {G:Gl} {c:Cx}
theorem lab_at (x:At G c) {k:Nat} {p:Pos} {A:Around} {E:Value→Shared→Prop} {s:Shared} {Q:Value→Shared→Prop} (hk:c.kinds.lookup (labName k) = some .globalImplicit) (st:G.B.StaysIn s.heap) (q:Q (.ref (labA k)) s):wpAny (model pw G.w) A (eval (.Name (labName k) p) x.S.env) Q E s:=by
  obtain ⟨mg,hG,hl⟩:=G.labs
  refine Calls.Name_function_global x.good.kind (by unfold Env.kindOf;rw [x.ctx.kinds];exact hk) (Calls.loadGlobal_global (mg:=mg) ?_ (hl k).1 q) (labDebug k)
  rw [x.good.globals];exact hG.keeps st
theorem ss_raise {k N:Nat} {p p' p'':Pos} (hk:c.kinds.lookup (labName k) = some .globalImplicit):SS G c (.Raise (some (.Call (.Name (labName k) p) [] [] p')) none p'') (evS tabs G.Γ N (.raise k)):=fun x hg σ' out Q he q=>by
  cases he
  obtain ⟨mg,hG,hl⟩:=G.labs
  obtain ⟨hb,N,nm,qn,bs,hdct,sn,sub,ab,col,dd,k0,k1,k2,k3,k5,mN,hC,hN,hni⟩:=hl k
  refine wpAny_Raise_call_subT (C:=labA k) (nm:=nm) (q:=qn) (N:=N) (bs:=bs) (bm:=baseX) (hdct:=hdct) (sn:=sn) (sub:=sub) (ab:=ab) (col:=col) (dd:=dd) (k0:=k0) (k1:=k1) (k2:=k2) (k3:=k3) (k5:=k5)
    PySem.F.excBase_Exception (mN:=mN) (by decide +kernel) x.good.handled rfl hni (lab_at x hk x.inv.stays ?_)
  exact ⟨rfl,evalArgs_empty ⟨rfl,Nat.zero_le _,x.inv.stays _ _ hC,hN.keeps x.inv.stays,.base,fun h' e hm=>q.exc k rfl ⟨x.g,x.s.heap,e,{ x.s with heap:=h' },x.inv,.refl ..,.inl hm⟩⟩⟩
structure Lnd (x:At G c) (k:Nat) (g:Option Addr) (σ:AS) (h0:Heap) (e:Addr) (s:Shared):Prop where
  fly:Fly x.S k e h0 s.heap
  inv:Inv G.w G.B x.S g σ s
  stp:Stp x.S g g h0 s.heap
theorem Lnd.of {x:At G c} {k:Nat} {g:Option Addr} {σ:AS} {h0 h:Heap} {e:Addr} {s:Shared} (V:Inv G.w G.B x.S g σ { s with heap:=h0 }) (f:Fly x.S k e h0 h):Lnd x k g σ h0 e { s with heap:=h }:=by
  obtain ⟨a0,⟨f1,f2⟩,up⟩:=f
  have K:=kp_of_base V.toHInv f1 up
  exact ⟨⟨a0,⟨f1,f2⟩,up⟩,Inv.kp0 (s':={ s with heap:=h }) V K V.gens V.os,K.mono (fun _ hh=>nomatch hh),.inl rfl,fun b o e=>(K.slots b o e (fun hh=>nomatch hh)).elim fun sl e'=>⟨_,e'⟩⟩
theorem Fly.cls {S:Sit} {k:Nat} {e:Addr} {h0 h:Heap} (f:Fly S k e h0 h):∃ oe,h.get? e = some oe∧oe.cls = .ref (labA k):=by
  obtain ⟨a0,⟨_,_,_,f4⟩,up⟩:=f
  obtain ⟨oe,vs,T,oT,ts,he,hcls,_⟩:=f4.at
  exact ⟨oe,he,hcls.1⟩
theorem lab_match (x:At G c) {j k:Nat} {g:Option Addr} {σ:AS} {h0:Heap} {e:Addr} {s:Shared} (l:Lnd x j g σ h0 e s) {A:Around} {E:Value→Shared→Prop} {Q:Bool→Shared→Prop} (q:Q (decide (labA j = labA k)) s):wpAny (model pw G.w) A (excMatches (.ref e) (.ref (labA k))) Q E s:=by
  obtain ⟨mg,hG,hl⟩:=G.labs
  obtain ⟨hbk,Nk,nm,qn,bs,hdct,sn,sub,ab,col,dd,k0,k1,k2,k3,k5,mN,hC,hN,hni⟩:=hl k
  obtain ⟨oe,heo,hce⟩:=l.fly.cls
  by_cases hjk:labA j = labA k
  · rw [decide_eq_true hjk] at q
    exact wpAny_excMatches_sub_self (l.inv.stays _ _ hC) heo (hjk▸hce) (by decide +kernel) q
  · rw [decide_eq_false hjk] at q
    obtain ⟨hbj,Nj,nm',qn',bs',hdct',sn',sub',ab',col',dd',k0',k1',k2',k3',k5',mN',hC',hN',hni'⟩:=hl j
    refine exc_other (l.inv.stays _ _ hC') (l.inv.stays _ _ hC) heo hce (by decide +kernel) ?_ q
    rw [List.contains_cons,beq_eq_false_iff_ne.mpr (fun q:Value.ref (labA k) = Value.ref (labA j)=>hjk (Value.ref.inj q).symm)];rfl
theorem exq_el {o:Option (AS × Out)} {k:Nat} {σ':AS} {out:Out} {P:Prop} (h:exq k o = some (σ',out)) (q1:(∀ j,out ≠ .exc j)→o = some (σ',out)→P) (q2:∀ j,labA j = labA k→out = .next→o = some (σ',.exc j)→P) (q3:∀ j,¬labA j = labA k→out = .exc j→o = some (σ',.exc j)→P):P:=by
  cases o with
  | none=>cases h
  | some p=>obtain ⟨σ₁,o⟩:=p;cases o with
    | exc j=>
      change (if labA j = labA k then some (σ₁,Out.next) else some (σ₁,Out.exc j)) = _ at h
      split at h
      · rename_i hj;cases h;exact q2 j hj rfl rfl
      · rename_i hj;cases h;exact q3 j hj rfl rfl
    | _=>cases h;exact q1 (fun j e=>nomatch e) rfl
theorem try_next {w:World} {S:Sit} {g:Option Addr} {h:Heap} {out:Out} {K:Shared→Prop} {Q:Flow→Shared→Prop} {f:Flow} {s:Shared} (ho:OutIs w S g h out f) (k:out = .next→K s) (q:Q f s):kC K Q f s:=by
  cases out with
  | next=>cases ho;exact k rfl
  | exc k=>exact ho.elim
  | ret v=>obtain ⟨val,rfl,_⟩:=ho;exact q
  | _=>cases ho;exact q
theorem hand_at (x:At G c) {k j:Nat} {p p1 p2:Pos} (hk:c.kinds.lookup (labName k) = some .globalImplicit) {g:Option Addr} {σ:AS} {h0:Heap} {e:Addr} {s:Shared} (hg:GS x.S) (V:Inv G.w G.B x.S g σ { s with heap:=h0 }) (f:Fly x.S j e h0 s.heap) {Q:Flow→Shared→Prop}
    (q1:labA j = labA k→∀ h',Inv G.w G.B x.S g σ { s with heap:=h' }→Stp x.S g g h0 h'→Q .next { s with heap:=h' }) (q2:¬labA j = labA k→∀ h',Held x.S x.S.env.locals j e h0 h'→x.E (.ref e) { s with heap:=h' }) :
    wpAny (model pw G.w) x.S.A (handleBy (.ref e) x.S.env [.ExceptHandler (some (.Name (labName k) p)) none [.Pass p1] p2]) Q x.E s:=by
  have l:Lnd x j g σ h0 e s:=Lnd.of V f
  refine wpAny_handleBy_cons (codeAny_handlers_test (lab_at x hk l.inv.stays (lab_match x l ?_))) (fun q=>nomatch q)
  by_cases hjk:labA j = labA k
  · rw [decide_eq_true hjk]
    exact codeAny_handlers_suite (land_again f fun h' f'=>wpAny_execs_cons (wpAny_Pass (wpAny_execs_nil (q1 hjk h' (Lnd.of V f').inv (Lnd.of V f').stp))))
  · rw [decide_eq_false hjk]
    exact wpAny_handleBy_nil (pass_ok hg.frame f fun h' hh=>q2 hjk h' hh)
theorem ss_try {k N:Nat} {b:List Stmt} {p p1 p2 p3:Pos} {cb:CB} (hk:c.kinds.lookup (labName k) = some .globalImplicit) (hb:BS G c b (evB tabs G.Γ N cb)):SS G c (.Try b [.ExceptHandler (some (.Name (labName k) p)) none [.Pass p1] p2] [] [] p3) (evS tabs G.Γ N (.try k cb)):=fun x hg σ' out Q he q=>by
  obtain ⟨outer,houter⟩:=hg.outer
  let x':At G c:=⟨x.S,x.g,x.σ,x.s,fun e s₁=>wpAny (model pw G.w) x.S.A (noteFrame e x.S.env) (fun _ s₂=>wpAny (model pw G.w) x.S.A (setFlight e none) (fun _ s₃=>wpAny (model pw G.w) x.S.A (handleBy e x.S.env [.ExceptHandler (some (.Name (labName k) p)) none [.Pass p1] p2]) Q x.E s₃) x.E s₂) x.E s₁,x.ctx,x.good,x.inv⟩
  refine wpAny_Try_except (exq_el he (fun hn e1=>hb x' hg σ' out _ e1 ⟨fun r=>try_next r.out (fun ho=>wpAny_execs_nil ?_) (q.ok ⟨r.g,r.s,r.f,r.inv,r.stp,r.out⟩),fun j hj=>absurd hj (hn j)⟩)
    (fun j hj ho e1=>hb x' hg σ' (.exc j) _ e1 ⟨fun r=>r.out.elim,fun j' hj' r=>?_⟩) fun j hj ho e1=>hb x' hg σ' (.exc j) _ e1 ⟨fun r=>r.out.elim,fun j' hj' r=>?_⟩)
  · subst ho;exact q.ok ⟨r.g,r.s,.next,r.inv,r.stp,rfl⟩
  · cases hj'
    subst ho
    exact note_ok houter x.good.stack hg.frame r.inv.toHInv r.ex fun h1 hh=>land_ok (s:={ r.s with heap:=h1 }) hh fun h2 hh2=>
      hand_at x (s:={ r.s with heap:=h2 }) hk hg r.inv hh2 (fun _ h' V y=>q.ok ⟨r.g,{ r.s with heap:=h' },.next,V,r.stp.trans y,rfl⟩) fun n=>absurd hj n
  · cases hj'
    subst ho
    exact note_ok houter x.good.stack hg.frame r.inv.toHInv r.ex fun h1 hh=>land_ok (s:={ r.s with heap:=h1 }) hh fun h2 hh2=>
      hand_at x (s:={ r.s with heap:=h2 }) hk hg r.inv hh2 (fun y=>absurd y hj) fun _ h' hd=>q.exc j rfl ⟨r.g,r.h0,r.e,{ r.s with heap:=h' },r.inv,r.stp,.inr hd⟩
end Mine
namespace Mine
noncomputable def clE (e:Expr):Option (Expr × List Expr × List Keyword × Pos):=match e with
  | .Call f xs kws p=>some (f,xs,kws,p)
  | _=>none
theorem clE_ok (e:Expr):(clE e).elim True fun z=>e = .Call z.1 z.2.1 z.2.2.1 z.2.2.2:=by cases e<;>first | rfl | trivial
noncomputable def lcE (e:Expr):Option (Expr × List Comprehension × Scope × Pos):=match e with
  | .ListComp a b d p=>some (a,b,d,p)
  | _=>none
theorem lcE_ok (e:Expr):(lcE e).elim True fun z=>e = .ListComp z.1 z.2.1 z.2.2.1 z.2.2.2:=by cases e<;>first | rfl | trivial
noncomputable def tuE (e:Expr):Option (List Expr × Nat × Pos):=match e with
  | .Tuple a b p=>some (a,b,p)
  | _=>none
theorem tuE_ok (e:Expr):(tuE e).elim True fun z=>e = .Tuple z.1 z.2.1 z.2.2:=by cases e<;>first | rfl | trivial
noncomputable def nilE (e:Expr):Option Pos:=match e with
  | .List xs p=>match xs with
    | []=>some p
    | _=>none
  | _=>none
theorem nilE_ok (e:Expr):(nilE e).elim True fun z=>e = .List [] z:=by
  cases e with
  | List xs p=>cases xs<;>first | rfl | trivial
  | _=>trivial
noncomputable def paS (s:Stmt):Option Pos:=match s with
  | .Pass p=>some p
  | _=>none
theorem paS_ok (s:Stmt):(paS s).elim True fun z=>s = .Pass z:=by cases s<;>first | rfl | trivial
noncomputable def passE (l:List Stmt):Option Pos:=(one l).bind paS
theorem passE_el {l:List Stmt} {p:Pos} (h:passE l = some p):l = [.Pass p]:=bind_el h fun s h1 h2=>by rw [one_el h1,view_el (paS_ok s) h2]
section
variable (c:Cx)
noncomputable def locE (t:Expr):Option (Nat × Str × Pos):=(nmE t).bind fun z=>(posOf z.1 c.names).bind fun i=>iff (c.kinds.lookup z.1 == some .local) (some (i,z.1,z.2))
noncomputable def selfE (t:Expr):Option (Nat × (Str × Pos) × Str × Pos):=(atE t).bind fun a=>(nmE a.1).bind fun z=>iff (notDbg z.1 && c.names[0]? == some z.1) ((posOf a.2.1 fnames).map fun i=>(i,z,a.2))
noncomputable def appE (t:Expr):Option (Nat × (Str × Pos) × Pos):=(atE t).bind fun a=>iff (a.2.1 == sName "append") ((nmE a.1).bind fun z=>iff (notDbg z.1) ((posOf z.1 c.names).map fun i=>(i,z,a.2.2)))
noncomputable def labL:List Str:=[labName 0,labName 1,labName 2,labName 3]
noncomputable def excE (e:Expr):Option (Nat × Pos):=(nmE e).bind fun z=>(posOf z.1 labL).bind fun k=>iff (c.kinds.lookup z.1 == some .globalImplicit) (some (k,z.2))
end
variable {c:Cx}
theorem locE_el {t:Expr} {z:Nat × Str × Pos} (h:locE c t = some z):t = .Name z.2.1 z.2.2∧Loc c z.1 z.2.1:=
  bind_el h fun y h1 h=>bind_el h fun i h2 h=>iff_el h fun h3 h=>by cases h;have e:=view_el (nmE_ok _) h1;exact ⟨e,posOf_get h2,eq_of_beq h3⟩
theorem selfE_el {t:Expr} {z:Nat × (Str × Pos) × Str × Pos} (h:selfE c t = some z):t = .Attribute (.Name z.2.1.1 z.2.1.2) z.2.2.1 z.2.2.2∧c.names[0]? = some z.2.1.1∧z.2.1.1 ≠ sName "__debug__"∧fnames[z.1]? = some z.2.2.1:=
  bind_el h fun a h0 h=>bind_el h fun y h1 h=>iff_el h fun h2 h=>map_el h fun i h3 h=>by
    cases h
    have e:=view_el (atE_ok _) h0
    rw [view_el (nmE_ok _) h1] at e
    exact ⟨e,eq_of_beq (and_r h2),dbg_ne (and_l h2),posOf_get h3⟩
theorem appE_el {t:Expr} {z:Nat × (Str × Pos) × Pos} (h:appE c t = some z):t = .Attribute (.Name z.2.1.1 z.2.1.2) (sName "append") z.2.2∧c.names[z.1]? = some z.2.1.1∧z.2.1.1 ≠ sName "__debug__":=
  bind_el h fun a h0 h=>iff_el h fun h1 h=>bind_el h fun y h2 h=>iff_el h fun h3 h=>map_el h fun i h4 h=>by
    cases h
    have e:=view_el (atE_ok _) h0
    rw [view_el (nmE_ok _) h2,eq_of_beq h1] at e
    exact ⟨e,posOf_get h4,dbg_ne h3⟩
theorem labL_el {k:Nat} {x:Str} (h:labL[k]? = some x):labName k = x:=match k,h with
  | 0,h=>Option.some.inj h
  | 1,h=>Option.some.inj h
  | 2,h=>Option.some.inj h
  | 3,h=>Option.some.inj h
  | _+4,h=>nomatch h
theorem excE_el {e:Expr} {z:Nat × Pos} (h:excE c e = some z):e = .Name (labName z.1) z.2∧c.kinds.lookup (labName z.1) = some .globalImplicit:=
  bind_el h fun y h1 h=>bind_el h fun k h2 h=>iff_el h fun h3 h=>by cases h;have e:=view_el (nmE_ok _) h1;rw [labL_el (posOf_get h2)];exact ⟨e,eq_of_beq h3⟩
noncomputable def badS:CS:=.ret bad
noncomputable def guardS (b:Bool) (a:CS):CS:=match b with
  | true=>a
  | false=>badS
section
variable {α:Type}
noncomputable def optS (o:Option α) (f:α→CS):CS:=match o with
  | some x=>f x
  | none=>badS
noncomputable def sumS (o:Option α) (f:α→CS) (b:CS):CS:=match o with
  | some x=>f x
  | none=>b
variable {G:Gl} {st:Stmt} {N:Nat} {a a':CS}
noncomputable abbrev OS (G:Gl) (c:Cx) (N:Nat) (st:Stmt) (a:CS):Prop:=SS G c st (evS tabs G.Γ N a)
theorem os_bad:OS G c N st badS:=ss_bad fun _=>rfl
theorem os_guard {b:Bool} (h:b = true→OS G c N st a):OS G c N st (guardS b a):=by
  cases b with
  | true=>exact h rfl
  | false=>exact os_bad
theorem os_opt {o:Option α} {f:α→CS} (h:∀ x,o = some x→OS G c N st (f x)):OS G c N st (optS o f):=by
  cases o with
  | some x=>exact h x rfl
  | none=>exact os_bad
theorem os_sum {o:Option α} {f:α→CS} (h:∀ x,o = some x→OS G c N st (f x)) (h':OS G c N st a):OS G c N st (sumS o f a):=by
  cases o with
  | some x=>exact h x rfl
  | none=>exact h'
end
section
variable (E:Cx→Expr→CE) (c:Cx) (rb:List Stmt→CB)
noncomputable def toAsg (t v:Expr):CS:=
  sumS (locE c t) (fun z=>sumS (lcE v) (fun w=>guardS (swapOk z.2.1 z.2.2 w.2.2.2 w.2.2.1) (.assign z.1 (toComp E c w.1 w.2.1 w.2.2.1))) (sumS (nilE v) (fun _=>.newOwn z.1) (guardS (swapFree v) (.assign z.1 (E c v)))))
  (sumS (selfE c t) (fun z=>guardS (swapFree v) (.setf z.1 (E c v)))
  (optS (tuE t) fun w=>optS (two w.1) fun ab=>optS (locE c ab.1) fun i=>optS (locE c ab.2) fun j=>optS (clE v) fun _=>.assign2 i.1 j.1 (E c v)))
noncomputable def toAug (t:Expr) (o:Operator) (v:Expr):CS:=optS (bopOf o) fun o=>sumS (locE c t) (fun z=>guardS (notDbg z.2.1) (.aug z.1 o (E c v))) (optS (selfE c t) fun z=>.augf z.1 o (E c v))
noncomputable def toEx (v:Expr):CS:=optS (clE v) fun z=>sumS (appE c z.1) (fun w=>guardS (z.2.2.1.isEmpty && w.2.2.endLine == z.2.2.2.line) (optS (one z.2.1) fun a=>guardS (notStar a) (.append w.1 (E c a)))) (.expr (E c v))
noncomputable def toTry (b:List Stmt) (hs:List ExceptHandler) (o f:List Stmt):CS:=guardS (o.isEmpty && f.isEmpty) (optS (one hs) fun h=>match h with
  | .ExceptHandler t nm body _=>optS t fun t=>optS (excE c t) fun k=>guardS nm.isNone (optS (passE body) fun _=>.try k.1 (rb b)))
noncomputable def toRaise (e cs:Option Expr):CS:=guardS cs.isNone (optS e fun e=>optS (clE e) fun z=>guardS (z.2.1.isEmpty && z.2.2.1.isEmpty) (optS (excE c z.1) fun k=>.raise k.1))
noncomputable def stepS (s:Stmt):CS:=match s with
  | .Assign ts v _=>optS (one ts) fun t=>toAsg E c t v
  | .AugAssign t o v _=>toAug E c t o v
  | .Expr v _=>toEx E c v
  | .If t a b _=>.ite (E c t) (rb a) (rb b)
  | .While t b o _=>guardS o.isEmpty (.while (E c t) (rb b))
  | .For t x b o _=>guardS (o.isEmpty && notSet x) (optS (locE c t) fun z=>.for z.1 (E c x) (rb b))
  | .Try b hs o f _=>toTry c rb b hs o f
  | .Raise e cs _=>toRaise c e cs
  | .Return e _=>optS e fun e=>.ret (E c e)
  | .Pass _=>.pass
  | .Break _=>.brk
  | .Continue _=>.cont
  | .Assert e m _=>guardS m.isNone (.assert (E c e))
  | _=>badS
end
noncomputable def toL (f:Stmt→CS):List Stmt→CB
  | []=>.nil
  | s :: r=>.cons (f s) (toL f r)
noncomputable def toS (c:Cx):Nat→Stmt→CS
  | 0,_=>badS
  | n+1,s=>stepS (toE 20) c (toL (toS c n)) s
section
variable {G:Gl} {N:Nat} {E:Cx→Expr→CE} {rb:List Stmt→CB} (hr:∀ c e,OK G c e (E c e))
include hr
theorem os_asg (t v:Expr) (p:Pos):OS G c N (.Assign [t] v p) (toAsg E c t v):=by
  refine os_sum (fun z hz=>?_) (os_sum (fun z hz=>os_guard fun hs=>?_) (os_opt fun w hw=>os_opt fun ab hab=>os_opt fun i hi=>os_opt fun j hj=>os_opt fun z hz=>?_))
  · rw [(locE_el hz).1]
    refine os_sum (fun w hw=>os_guard fun hs=>?_) (os_sum (fun w hw=>?_) (os_guard fun hs=>ss_assign (locE_el hz).2 hs (hr ..)))
    · rw [view_el (lcE_ok _) hw];exact ss_assignC (locE_el hz).2 hs (cu_toComp hr _ _ _ _)
    · rw [view_el (nilE_ok _) hw];exact ss_newOwn (locE_el hz).2
  · obtain ⟨e,h1,h2,h3⟩:=selfE_el hz
    rw [e];exact ss_setf h1 h2 h3 hs (hr ..)
  · rw [view_el (tuE_ok _) hw,two_el hab,(locE_el hi).1,(locE_el hj).1,view_el (clE_ok _) hz]
    exact ss_assign2 (locE_el hi).2 (locE_el hj).2 (hr ..)
theorem os_aug (t:Expr) (o:Operator) (v:Expr) (p:Pos):OS G c N (.AugAssign t o v p) (toAug E c t o v):=by
  refine os_opt fun b hb=>?_
  rw [view_el (bopOf_ok _) hb]
  refine os_sum (fun z hz=>os_guard fun hd=>?_) (os_opt fun z hz=>?_)
  · rw [(locE_el hz).1];exact ss_aug (locE_el hz).2 (dbg_ne hd) (hr ..)
  · obtain ⟨e,h1,h2,h3⟩:=selfE_el hz
    rw [e];exact ss_augf h1 h2 h3 (hr ..)
theorem os_ex (v:Expr) (p:Pos):OS G c N (.Expr v p) (toEx E c v):=by
  refine os_opt fun z hz=>?_
  rw [view_el (clE_ok _) hz]
  refine os_sum (fun w hw=>os_guard fun hc=>os_opt fun a ha=>os_guard fun hn=>?_) (ss_expr (hr ..))
  obtain ⟨e,h1,h2⟩:=appE_el hw
  rw [e,one_el ha,List.isEmpty_iff.mp (and_l hc)]
  exact ss_append h1 h2 (and_r hc) hn (hr ..)
omit hr in
theorem os_raise (e cs:Option Expr) (p:Pos):OS G c N (.Raise e cs p) (toRaise c e cs):=by
  refine os_guard fun hc=>os_opt fun e he=>os_opt fun z hz=>os_guard fun hx=>os_opt fun k hk=>?_
  rw [he,view_el (clE_ok _) hz,(excE_el hk).1,List.isEmpty_iff.mp (and_l hx),List.isEmpty_iff.mp (and_r hx),Option.isNone_iff_eq_none.mp hc]
  exact ss_raise (excE_el hk).2
omit hr in
theorem os_try (hb:∀ l,BS G c l (evB tabs G.Γ N (rb l))) (b:List Stmt) (hs:List ExceptHandler) (o f:List Stmt) (p:Pos):OS G c N (.Try b hs o f p) (toTry c rb b hs o f):=by
  refine os_guard fun hc=>os_opt fun h hh=>?_
  rw [one_el hh,List.isEmpty_iff.mp (and_l hc),List.isEmpty_iff.mp (and_r hc)]
  obtain ⟨t,nm,body,p2⟩:=h
  refine os_opt fun t ht=>os_opt fun k hk=>os_guard fun hn=>os_opt fun q hq=>?_
  rw [ht,(excE_el hk).1,Option.isNone_iff_eq_none.mp hn,passE_el hq]
  exact ss_try (excE_el hk).2 (hb b)
theorem os_step (hb:∀ l,BS G c l (evB tabs G.Γ N (rb l))) (s:Stmt):OS G c N s (stepS E c rb s):=by
  cases s with
  | Assign ts v p=>exact os_opt fun t ht=>by rw [one_el ht];exact os_asg hr t v p
  | AugAssign t o v p=>exact os_aug hr t o v p
  | Expr v p=>exact os_ex hr v p
  | If t a b p=>exact ss_ite (hr ..) (hb a) (hb b)
  | While t b o p=>exact os_guard fun ho=>by rw [List.isEmpty_iff.mp ho];exact ss_while (hr ..) (hb b)
  | For t x b o p=>exact os_guard fun ho=>os_opt fun z hz=>by rw [List.isEmpty_iff.mp (and_l ho),(locE_el hz).1];exact ss_for (locE_el hz).2 (hr ..) (and_r ho) (hb b)
  | Try b hs o f p=>exact os_try hb b hs o f p
  | Raise e cs p=>exact os_raise e cs p
  | Return e p=>exact os_opt fun e he=>by rw [he];exact ss_ret (hr ..)
  | Pass p=>exact ss_pass
  | Break p=>exact ss_brk
  | Continue p=>exact ss_cont
  | Assert e m p=>exact os_guard fun hm=>by rw [Option.isNone_iff_eq_none.mp hm];exact ss_assert (hr ..)
  | _=>exact os_bad
end
theorem bs_toL {G:Gl} {N:Nat} {f:Stmt→CS} (h:∀ s,OS G c N s (f s)) (l:List Stmt):BS G c l (evB tabs G.Γ N (toL f l)):=by
  induction l with
  | nil=>exact bs_nil
  | cons s r ih=>exact bs_cons (h s) ih
theorem os_toS {G:Gl} {N:Nat} (n:Nat):∀ s,OS G c N s (toS c n s):=by
  induction n with
  | zero=>exact fun _=>os_bad
  | succ n ih=>exact fun s=>os_step (ok_toE 20) (bs_toL ih) s
noncomputable def toB (c:Cx) (l:List Stmt):CB:=toL (toS c 12) l
theorem bs_toB {G:Gl} {N:Nat} (l:List Stmt):BS G c l (evB tabs G.Γ N (toB c l)):=bs_toL (os_toS 12) l
end Mine
namespace Mine
noncomputable def dfun (d:Data):Option FuncData:=match d with
  | .func f=>some f
  | _=>none
theorem dfun_ok (d:Data):(dfun d).elim True fun z=>d = .func z:=by cases d<;>first | rfl | trivial
noncomputable def bodyL (b:FuncBody):Option (List Stmt):=match b with
  | .stmts l=>some l
  | _=>none
theorem bodyL_ok (b:FuncBody):(bodyL b).elim True fun z=>b = .stmts z:=by cases b<;>first | rfl | trivial
noncomputable def fnLook (K:Frag) (a:Addr):Option (FuncData × List Stmt):=(K.lookup a).bind fun o=>(dfun o.data).bind fun fd=>(bodyL fd.body).map fun b=>(fd,b)
theorem fnLook_el {K:Frag} {a:Addr} {z:FuncData × List Stmt} (h:fnLook K a = some z):∃ o,K.lookup a = some o∧o.data = .func z.1∧z.1.body = .stmts z.2:=
  bind_el h fun o h1 h=>bind_el h fun fd h2 h=>map_el h fun b h3 h=>by
    cases h
    have e2:=view_el (dfun_ok _) h2
    have e3:=view_el (bodyL_ok _) h3
    exact ⟨o,h1,e2,e3⟩
noncomputable def addrV (v:Value):Option Addr:=match v with
  | .ref a=>some a
  | _=>none
theorem addrV_ok (v:Value):(addrV v).elim True fun z=>v = .ref z:=by cases v<;>first | rfl | trivial
noncomputable def fieldsD (d:Data):Option (Array Value):=match d with
  | .fields f=>some f
  | _=>none
theorem fieldsD_ok (d:Data):(fieldsD d).elim True fun z=>d = .fields z:=by cases d<;>first | rfl | trivial
noncomputable def codeOf (K:Frag) (v:Value):Option (Addr × Obj × Array Value × Value):=(addrV v).bind fun c=>(K.lookup c).bind fun o=>(fieldsD o.data).bind fun vs=>(vs[1]?).map fun x=>(c,o,vs,x)
noncomputable def isStr (x:Str) (v:Value):Bool:=match v with
  | .str y _=>x == y
  | _=>false
theorem isStr_el {x:Str} {v:Value} (h:isStr x v = true):∃ t,v = .str x t:=by
  cases v with
  | str y t=>cases eq_of_beq h;exact ⟨t,rfl⟩
  | _=>cases h
noncomputable def fnChk (K:Frag) (F:Fn) (fd:FuncData):Bool:=
  (fd.closure.isEmpty && (!fd.scope.isCoroutine && (!fd.scope.isGenerator && (fd.scope.kind == .function && (fd.globals == mainGlobals && fd.builtins == builtinsNs))))) &&
  ((codeOf K fd.code).any (fun z=>isStr fd.qualname z.2.2.2) && (((F.names.take F.np).all fun x=>fd.scope.names.lookup x == some .local || (fd.scope.names.lookup x == some .cell && fd.scope.names.contains (x,.cell))) && (decide (F.np ≤ F.names.length) && decide F.names.Nodup)))
structure FnIs (B:Heap) (a:Addr) (F:Fn) (fd:FuncData) (b:List Stmt):Prop where
  obj:∃ o,B.get? a = some o∧o.data = .func fd
  body:fd.body = .stmts b
  isb:toB ⟨F.names,fd.scope.names⟩ b = F.body
  np:F.np ≤ F.names.length
  nd:F.names.Nodup
  clo:fd.closure = []
  co:fd.scope.isCoroutine = false
  gen:fd.scope.isGenerator = false
  kind:fd.scope.kind = .function
  glob:fd.globals = mainGlobals
  bu:fd.builtins = builtinsNs
  code:B.CodeRec fd.code fd.qualname
  prm:∀ x ∈ F.names.take F.np,fd.scope.names.lookup x = some .local ∨ (fd.scope.names.lookup x = some .cell∧(x,NameKind.cell) ∈ fd.scope.names)
  bind:∀ vals:List Value,vals.length = F.np→bindArgs fd ⟨vals,[]⟩ = pure ((F.names.take F.np).zip vals)
noncomputable def fnOf (i:Nat):Fn:=fns.getD i ⟨0,[],.nil⟩
noncomputable def fnA (i:Nat):Addr:=fnAddr.getD i 0
theorem fn_chk (P:Params):(List.range 36).all (fun i=>(fnLook (KK P) (fnA i)).any fun z=>fnChk (KK P) (fnOf i) z.1) = true:=by kernel_rfl!
theorem fn_body (P:Params):(List.range 36).map (fun i=>(fnLook (KK P) (fnA i)).map fun z=>toB ⟨(fnOf i).names,z.1.scope.names⟩ z.2) = (List.range 36).map fun i=>some (fnOf i).body:=by kernel_rfl!
noncomputable def withNp (k:Nat):List Nat:=(List.range 36).filter fun i=>(fnOf i).np == k
noncomputable def bindsOf (P:Params) (vals:List Value) (i:Nat):Option (Sem (List (Str × Value))):=(fnLook (KK P) (fnA i)).map fun z=>bindArgs z.1 ⟨vals,[]⟩
noncomputable def bindsTo (vals:List Value) (i:Nat):Option (Sem (List (Str × Value))):=some (pure (((fnOf i).names.take (fnOf i).np).zip vals))
theorem fn_bind0 (P:Params):(withNp 0).map (bindsOf P []) = (withNp 0).map (bindsTo []):=by kernel_rfl!
theorem fn_bind1 (P:Params) (a:Value):(withNp 1).map (bindsOf P [a]) = (withNp 1).map (bindsTo [a]):=by kernel_rfl!
theorem fn_bind2 (P:Params) (a b:Value):(withNp 2).map (bindsOf P [a,b]) = (withNp 2).map (bindsTo [a,b]):=by kernel_rfl!
theorem fn_bind3 (P:Params) (a b c:Value):(withNp 3).map (bindsOf P [a,b,c]) = (withNp 3).map (bindsTo [a,b,c]):=by kernel_rfl!
theorem fn_bind4 (P:Params) (a b c d:Value):(withNp 4).map (bindsOf P [a,b,c,d]) = (withNp 4).map (bindsTo [a,b,c,d]):=by kernel_rfl!
theorem np_le:(List.range 36).all (fun i=>decide ((fnOf i).np ≤ 4)) = true:=by decide +kernel
theorem fn_bind (P:Params) {i:Nat} (hi:i < 36) (vals:List Value) (h:vals.length = (fnOf i).np):bindsOf P vals i = bindsTo vals i:=by
  have hm:i ∈ withNp vals.length:=List.mem_filter.mpr ⟨List.mem_range.mpr hi,beq_iff_eq.mpr h.symm⟩
  match vals with
  | []=>exact map_at (fn_bind0 P) hm
  | [a]=>exact map_at (fn_bind1 P a) hm
  | [a,b]=>exact map_at (fn_bind2 P a b) hm
  | [a,b,c]=>exact map_at (fn_bind3 P a b c) hm
  | [a,b,c,d]=>exact map_at (fn_bind4 P a b c d) hm
  | _ :: _ :: _ :: _ :: _ :: _=>
    have:=of_decide_eq_true (List.all_eq_true.mp np_le i (List.mem_range.mpr hi))
    rw [←h] at this
    exact absurd this (by simp)
theorem fn_is {w:World} {B:Heap} (hf:Fixed w B) {i:Nat} (hi:i < 36):∃ fd b,FnIs B (fnA i) (fnOf i) fd b:=by
  have hm:i ∈ List.range 36:=List.mem_range.mpr hi
  have h1:=List.all_eq_true.mp (fn_chk w.params) i hm
  have h2:=map_at (fn_body w.params) hm
  have h3:=fun vals h=>fn_bind w.params hi vals h
  have X:=kIn hf
  unfold bindsOf at h3
  cases hz:fnLook (KK w.params) (fnA i) with
  | none=>rw [hz] at h1;cases h1
  | some z=>
    rw [hz] at h1 h2 h3
    obtain ⟨fd,b⟩:=z
    obtain ⟨o,ho,hd,hb⟩:=fnLook_el hz
    unfold fnChk at h1
    simp only [Option.any_some,Bool.and_eq_true,Bool.not_eq_true',beq_iff_eq,List.isEmpty_iff,List.all_eq_true,Bool.or_eq_true,List.contains_iff_mem,decide_eq_true_eq] at h1
    obtain ⟨⟨c1,c2,c3,c4,c5,c6⟩,c7,c8,c9,c10⟩:=h1
    refine ⟨fd,b,⟨o,X _ _ ho,hd⟩,hb,Option.some.inj h2,c9,c10,c1,c2,c3,c4,c5,c6,?_,c8,fun vals h=>Option.some.inj (h3 vals h)⟩
    cases hc:codeOf (KK w.params) fd.code with
    | none=>rw [hc] at c7;cases c7
    | some q=>
      rw [hc] at c7
      obtain ⟨t,e⟩:=isStr_el c7
      refine bind_el hc fun a ha h=>bind_el h fun oc hoc h=>bind_el h fun vs hvs h=>map_el h fun x hx h=>?_
      subst h
      cases e
      have e1:=view_el (addrV_ok _) ha
      have e2:=view_el (fieldsD_ok _) hvs
      exact ⟨a,oc,vs,t,e1,X _ _ hoc,e2,hx⟩
end Mine
namespace Mine
theorem bindL_not {kf:Str→Option NameKind}:∀ {ns:List Str} {vals:List Value} {m:Str→Option Value} {x:Str},x ∉ ns→bindL kf (ns.zip vals) m x = m x
  | [],_,_,_,_=>rfl
  | _ :: _,[],_,_,_=>rfl
  | a :: ns,b :: vals,m,x,h=>by
    rw [List.mem_cons,not_or] at h
    rw [List.zip_cons_cons,bindL,bindL_not h.2]
    split
    · simp [h.1]
    · rfl
theorem bindL_get {kf:Str→Option NameKind}:∀ {ns:List Str} {vals:List Value} {m:Str→Option Value} {i:Nat} {x:Str} {v:Value},ns.Nodup→ns[i]? = some x→vals[i]? = some v→kf x = some .local→bindL kf (ns.zip vals) m x = some v
  | [],_,_,i,_,_,_,e,_,_=>by simp at e
  | _ :: _,[],_,i,_,_,_,_,e,_=>by simp at e
  | a :: ns,b :: vals,m,i,x,v,hn,e1,e2,hk=>by
    rw [List.nodup_cons] at hn
    rw [List.zip_cons_cons,bindL]
    cases i with
    | zero=>
      simp at e1 e2;subst e1 e2
      rw [bindL_not hn.1];simp [hk]
    | succ i=>exact bindL_get hn.2 (by simpa using e1) (by simpa using e2) hk
theorem bindC_not {kf:Str→Option NameKind}:∀ {ns:List Str} {vals:List Value} {m:Str→Option Value} {x:Str},x ∉ ns→bindC kf (ns.zip vals) m x = m x
  | [],_,_,_,_=>rfl
  | _ :: _,[],_,_,_=>rfl
  | a :: ns,b :: vals,m,x,h=>by
    rw [List.mem_cons,not_or] at h
    rw [List.zip_cons_cons,bindC,bindC_not h.2]
    split
    · rfl
    · simp [h.1]
theorem bindC_get {kf:Str→Option NameKind}:∀ {ns:List Str} {vals:List Value} {m:Str→Option Value} {i:Nat} {x:Str} {v:Value},ns.Nodup→ns[i]? = some x→vals[i]? = some v→kf x = some .cell→bindC kf (ns.zip vals) m x = some v
  | [],_,_,i,_,_,_,e,_,_=>by simp at e
  | _ :: _,[],_,i,_,_,_,_,e,_=>by simp at e
  | a :: ns,b :: vals,m,i,x,v,hn,e1,e2,hk=>by
    rw [List.nodup_cons] at hn
    rw [List.zip_cons_cons,bindC]
    cases i with
    | zero=>
      simp at e1 e2;subst e1 e2
      rw [bindC_not hn.1];simp [hk]
    | succ i=>exact bindC_get hn.2 (by simpa using e1) (by simpa using e2) hk
theorem cellsFrom_some:∀ {l:List (Str × NameKind)} {n:Nat} {acc:List (Str × Addr)} {x:Str},((acc.lookup x).isSome = true ∨ (x,NameKind.cell) ∈ l)→((cellsFrom n l acc).lookup x).isSome = true
  | [],n,acc,x,h=>by
    rcases h with h | h
    · exact h
    · cases h
  | (a,k) :: r,n,acc,x,h=>by
    unfold cellsFrom
    split
    · rename_i hk
      refine cellsFrom_some ?_
      rcases h with h | h
      · left
        rw [List.lookup_cons]
        split<;>simp_all
      · rw [List.mem_cons] at h
        rcases h with h | h
        · cases h;left;simp [List.lookup_cons]
        · exact .inr h
    · rename_i hk
      refine cellsFrom_some ?_
      rcases h with h | h
      · exact .inl h
      · rw [List.mem_cons] at h
        rcases h with h | h
        · cases h;exact absurd rfl hk
        · exact .inr h
section
variable {w:World} {B:Heap}
theorem repsV_get {fr:List Env} {I:Option (Addr × Addr)} {g:Option Addr} {h:Heap} {l:List AV} {vals:List Value} (r:RepsV w fr I g h l vals):∀ {i:Nat} {v:AV},l[i]? = some v→∃ val,vals[i]? = some val∧Rep w fr I g h v val:=by
  induction r with
  | nil=>intro i v e;simp at e
  | cons a _ ih=>
    intro i v e
    cases i with
    | zero=>simp at e;subst e;exact ⟨_,rfl,a⟩
    | succ i=>simpa using ih (by simpa using e)
theorem repsV_len {fr:List Env} {I:Option (Addr × Addr)} {g:Option Addr} {h:Heap} {l:List AV} {vals:List Value} (r:RepsV w fr I g h l vals):vals.length = l.length:=by
  induction r with
  | nil=>rfl
  | cons _ _ ih=>simp [ih]
theorem Rep.over {fr fr':List Env} {I:Option (Addr × Addr)} {g:Option Addr} {h:Heap} {v:AV} {val:Value} (r:Rep w fr I g h v val) (hv:v.isSt = true):Rep w fr' I none h v val:=by
  cases v with
  | «at» a=>exact r
  | list l=>obtain ⟨a,vs,e,n,x⟩:=r;exact ⟨a,vs,e,(fun q=>by cases q),x⟩
  | tup l=>obtain ⟨a,vs,e,n,x⟩:=r;exact ⟨a,vs,e,(fun q=>by cases q),x⟩
  | own l=>cases hv
  | dict l=>cases hv
  | rng lo hi st=>cases hv
theorem Rep.back {fr:List Env} {env:Env} {I:Option (Addr × Addr)} {g:Option Addr} {h:Heap} {v:AV} {val:Value} (r:Rep w (env :: fr) I g h v val) (hv:v.isOwn = false):Rep w fr I none h v val:=by
  have ap:∀ {a:Addr},Apart (env :: fr) I a→Apart fr I a:=fun {a} ⟨x,y⟩=>⟨fun m=>x (by
    rw [List.filterMap_cons]
    split
    · exact m
    · exact .tail _ m),y⟩
  cases v with
  | «at» a=>exact r
  | list l=>obtain ⟨a,vs,e,n,x⟩:=r;exact ⟨a,vs,e,(fun q=>by cases q),x⟩
  | tup l=>obtain ⟨a,vs,e,n,x⟩:=r;exact ⟨a,vs,e,(fun q=>by cases q),x⟩
  | own l=>cases hv
  | dict l=>obtain ⟨a,e,n,z,x⟩:=r;exact ⟨a,e,(fun q=>by cases q),ap z,x⟩
  | rng lo hi st=>obtain ⟨a,e,n,z,x⟩:=r;exact ⟨a,e,(fun q=>by cases q),ap z,x⟩
end
theorem hinv_back {B:Heap} {env:Env} {fr:List Env} {I:Option (Addr × Addr)} {fl:FL} {h:Heap} (hL:env.frame = some env.locals) (H:HInv B (env :: fr) I fl h):HInv B fr I fl h:=by
  have sub:∀ b,b ∈ frA fr→b ∈ frA (env :: fr):=fun b m=>by
    unfold frA;rw [List.filterMap_cons,hL];exact .tail _ m
  exact ⟨H.stays,H.frs.2.2,fun x dx q=>let ⟨a,b,c,d,e,f,i,j,k⟩:=H.inst x dx q;⟨a,b,c,d,e,fun m=>f (sub _ m),fun m=>i (sub _ m),j,k⟩⟩
structure Cg (G:Gl) where
  S:Sit
  s:Shared
  fl:FL
  vs:List AV
  vals:List Value
  good:Good (G.n+1) G.B S
  H:HInv G.B S.fr S.inst fl s.heap
  gens:s.gens = #[]
  os:s.os = S.os
  st:vs.all AV.isSt = true
  rv:RepsV G.w S.fr S.inst none s.heap vs vals
  a:Addr
  F:Fn
  fd:FuncData
  b:List Stmt
  X:FnIs G.B a F fd b
  len:vs.length = F.np
variable {G:Gl}
noncomputable abbrev Cg.env (K:Cg G):Env:=callEnvC K.fd K.s.heap.objs.size K.a
noncomputable def Cg.S' (K:Cg G):Sit:=⟨K.S.A.deeper K.env,K.env,K.env :: K.S.fr,K.F.names,K.S.inst,K.S.os⟩
noncomputable abbrev Cg.σ (K:Cg G):AS:=⟨K.vs.map some ++ List.replicate (K.F.names.length - K.F.np) none,K.fl⟩
theorem Cg.new (K:Cg G):K.s.heap.get? K.env.locals = none:=get_size _
theorem Cg.free (K:Cg G):Free G.B K.S.fr K.S.inst K.env.locals:=.of K.H K.new
theorem Cg.good' (K:Cg G):Good G.n G.B K.S':=
  { stack:=by show K.S.A.frames.map (K.env :: ·) = _;rw [K.good.stack];rfl
    handled:=K.good.handled
    depth:=by have:=K.good.depth;show K.S.A.depth+1+G.n+10 ≤ _;omega
    units:=by have:=K.good.units;show K.S.A.units+3+4 * G.n+200 ≤ _;omega
    kind:=K.X.kind
    globals:=K.X.glob
    builtins:=K.X.bu
    nodup:=K.X.nd
    newL:=K.free.b }
theorem Cg.gs (K:Cg G):GS K.S':=⟨⟨K.S.fr,rfl⟩,rfl⟩
theorem Cg.frA (K:Cg G) {z:Addr} (h:z ∈ frA (K.env :: K.S.fr)):z = K.env.locals ∨ z ∈ Mine.frA K.S.fr:=by
  unfold Mine.frA at h;rw [List.filterMap_cons] at h
  exact List.mem_cons.mp h
theorem Cg.hinv (K:Cg G) {h₁:Heap} {m:Str→Option Value} (keep:∀ b o,K.s.heap.get? b = some o→h₁.get? b = some o) (hn:h₁.Ns K.env.locals m):HInv G.B (K.env :: K.S.fr) K.S.inst K.fl h₁:=by
  have H0:=K.H.keep keep
  obtain ⟨oL,es,ep,hoL,hdL,_⟩:=hn
  refine ⟨H0.stays,⟨by show K.fd.scope.kind ≠ _;rw [K.X.kind];decide,⟨K.env.locals,oL,rfl,K.free.b,hoL,fun vs q=>by rw [hdL] at q;cases q⟩,H0.frs⟩,fun x dx q=>?_⟩
  obtain ⟨a,b,c,d,e,f',i,j,k⟩:=H0.inst x dx q
  exact ⟨a,b,c,d,e,fun m=>(K.frA m).elim (fun z=>(K.free.i x dx q).1 z.symm) f',fun m=>(K.frA m).elim (fun z=>(K.free.i x dx q).2 z.symm) i,j,k⟩
theorem pad_get {α:Type} {l:List α} {k i:Nat} {u:α} (h:(l.map some ++ List.replicate k none)[i]? = some (some u)):l[i]? = some u:=by
  rw [List.getElem?_append] at h
  split at h
  · exact map_some_get h
  · obtain ⟨_,e⟩:=List.getElem?_eq_some_iff.mp h
    rw [List.getElem_replicate] at e;cases e
theorem Cg.inv (K:Cg G) {s₁:Shared} (C:InCallC K.s K.env.locals (bindL K.env.kindOf ((K.F.names.take K.F.np).zip K.vals) fun _=>none) K.env.cells (bindC K.env.kindOf ((K.F.names.take K.F.np).zip K.vals) fun _=>none) s₁):Inv G.w G.B K.S' none K.σ s₁:=by
  have htn:(K.F.names.take K.F.np).Nodup:=K.X.nd.sublist (List.take_sublist _ _)
  have keep:=C.toInCall.keep
  obtain ⟨h₁,tk,e1⟩:=C.toInCall.same
  exact {
    toHInv:=K.hinv keep C.toInCall.ns
    loc:=⟨_,C.toInCall.ns⟩
    vars:=fun i u hu=>by
      have hi:=pad_get hu
      obtain ⟨val,hv1,hv2⟩:=repsV_get K.rv hi
      have hin:i < K.F.np:=by rw [←K.len];exact (List.getElem?_eq_some_iff.mp hi).1
      have hx:K.F.names[i]? = some (K.F.names[i]'(Nat.lt_of_lt_of_le hin K.X.np)):=List.getElem?_eq_getElem _
      have hx':(K.F.names.take K.F.np)[i]? = some (K.F.names[i]'(Nat.lt_of_lt_of_le hin K.X.np)):=(List.getElem?_take_of_lt hin).trans hx
      refine ⟨_,val,hx,?_,(hv2.kp K.H (.of_keep keep)).over (List.all_eq_true.mp K.st u (List.mem_of_getElem? hi))⟩
      rcases K.X.prm _ (List.mem_of_getElem? hx') with h | ⟨h,hm⟩
      · exact .inl ⟨h,_,C.toInCall.ns,bindL_get htn hx' hv1 h⟩
      · obtain ⟨c,hc⟩:=Option.isSome_iff_exists.mp (cellsFrom_some (n:=K.s.heap.objs.size+1) (acc:=[]) (.inr hm))
        obtain ⟨oc,hoc,hdc⟩:=C.cell _ c hc
        exact .inr ⟨h,c,hc,oc,hoc,by rw [hdc,bindC_get htn hx' hv1 h]⟩
    dr:=fun i u hu=>isSt_dr (List.all_eq_true.mp K.st u (List.mem_of_getElem? (pad_get hu)))
    len:=by
      show (K.vs.map some ++ List.replicate (K.F.names.length - K.F.np) none).length = K.F.names.length
      rw [List.length_append,List.length_map,List.length_replicate,K.len];exact Nat.add_sub_of_le K.X.np
    ld:=K.free.dl
    gown:=fun a e=>nomatch e
    gens:=by rw [e1];exact K.gens
    os:=by rw [e1];exact K.os }
theorem Cg.back (K:Cg G) {h₁:Heap} (keep:∀ b o,K.s.heap.get? b = some o→h₁.get? b = some o) {g':Option Addr} {h':Heap} (y:Stp K.S' none g' h₁ h'):Kp K.S.fr (dl K.S.inst) K.s.heap h':=by
  have nd:∀ b o,K.s.heap.get? b = some o→b ∉ dl K.S.inst→b ≠ K.env.locals∧b ∉ dS K.S' none:=fun b o e hd=>
    have hb:b ≠ K.env.locals:=by rintro rfl;rw [K.new] at e;cases e
    ⟨hb,dS_not hb (fun z=>nomatch z) hd⟩
  exact ⟨fun b o e hd hfr=>y.kp.exact b o (keep b o e) (nd b o e hd).2 fun m=>(K.frA m).elim (nd b o e hd).1 hfr,fun b o e hd=>y.kp.slots b o (keep b o e) (nd b o e hd).2⟩
noncomputable def CallOkC (G:Gl) (n:Nat) (Γ:Call):Prop:=
  ∀ (f:Nat) (vs:List AV) (fl:FL) (v:AV) (fl':FL),Γ f vs fl = some (v,fl')→∀ (S:Sit) (s:Shared) (vals:List Value) (Q:Value→Shared→Prop) (E:Value→Shared→Prop),Good n G.B S→HInv G.B S.fr S.inst fl s.heap→s.gens = #[]→s.os = S.os→
    vs.all AV.isSt = true→RepsV G.w S.fr S.inst none s.heap vs vals→
    (∀ val s',HInv G.B S.fr S.inst fl' s'.heap→Kp S.fr (dl S.inst) s.heap s'.heap→s'.gens = #[]→s'.os = S.os→Rep G.w S.fr S.inst none s'.heap v val→Q val s')→
    codeAny (model pw G.w) S.A (.call (.ref (fnA f)) ⟨vals,[]⟩) (fun r s'=>match r with | .ok (.ret v)=>Q v s' | .ok _=>False | .error e=>E e s') s
theorem retOf_el {o:Option (AS × Out)} {v:AV} {fl':FL} {P:Prop} (h:retOf o = some (v,fl')) (q:∀ σ out,o = some (σ,out)→(out = .next∧v = .at (.cst .none)) ∨ out = .ret v→σ.fl = fl'→P):P:=by
  cases o with
  | none=>cases h
  | some p=>obtain ⟨σ,o⟩:=p;cases o with
    | next=>cases h;exact q σ _ rfl (.inl ⟨rfl,rfl⟩) rfl
    | ret u=>cases h;exact q σ _ rfl (.inr rfl) rfl
    | _=>cases h
noncomputable def retV (f:Flow):Value:=match f with
  | .ret v=>v
  | _=>.none
theorem ret_rep {w:World} {S:Sit} {g:Option Addr} {h:Heap} {out:Out} {v:AV} {f:Flow} (ho:(out = .next∧v = .at (.cst .none)) ∨ out = .ret v) (hf:OutIs w S g h out f):Rep w S.fr S.inst g h v (retV f)∧v.isOwn = false:=by
  rcases ho with ⟨rfl,rfl⟩ | rfl
  · cases hf;exact ⟨rfl,rfl⟩
  · obtain ⟨val,rfl,r,o⟩:=hf;exact ⟨r,o⟩
theorem Cg.run {N:Nat} (K:Cg G) {v:AV} {fl':FL} (he:retOf (evB tabs G.Γ N K.F.body K.σ) = some (v,fl')) {Q:Value→Shared→Prop} {E:Value→Shared→Prop}
    (q:∀ val s',HInv G.B K.S.fr K.S.inst fl' s'.heap→Kp K.S.fr (dl K.S.inst) K.s.heap s'.heap→s'.gens = #[]→s'.os = K.S.os→Rep G.w K.S.fr K.S.inst none s'.heap v val→Q val s') :
    codeAny (model pw G.w) K.S.A (.call (.ref K.a) ⟨K.vals,[]⟩) (fun r s'=>match r with | .ok (.ret v)=>Q v s' | .ok _=>False | .error e=>E e s') K.s:=by
  obtain ⟨o,ho,hd⟩:=K.X.obj
  obtain ⟨cc,oc,vs',t,c1,c2,c3⟩:=K.X.code
  refine codeAny_call_cells (by have:=K.good.depth;omega) (K.H.stays _ _ ho) hd (G.fixed.lim.keeps K.H.stays) ⟨cc,oc,vs',t,c1,K.H.stays _ _ c2,c3⟩ K.X.body (K.X.bind _ ((repsV_len K.rv).trans K.len)) K.X.clo (fun x hx=>?_) (fun s₁ C=>?_) K.X.co K.X.gen K.X.kind
  · rcases K.X.prm _ (List.of_mem_zip (a:=x.1) (b:=x.2) hx).1 with h | ⟨h,hm⟩
    · exact .inl h
    · exact .inr ⟨h,cellsFrom_some (.inr hm)⟩
  · refine retOf_el he fun σ' out e1 hout hfl=>?_
    have hb:=bs_toB (G:=G) (c:=⟨K.F.names,K.fd.scope.names⟩) (N:=N) K.b
    rw [K.X.isb] at hb
    refine hb ⟨K.S',none,K.σ,s₁,_,⟨rfl,rfl⟩,K.good',K.inv C⟩ K.gs σ' out _ e1 ⟨fun r=>?_,fun k hk=>by rcases hout with ⟨h,_⟩ | h<;>cases h.symm.trans hk⟩
    obtain ⟨rr,ro⟩:=ret_rep hout r.out
    subst hfl
    exact q (retV r.f) r.s (hinv_back rfl r.inv.toHInv) (K.back C.toInCall.keep r.stp) r.inv.gens r.inv.os (rr.back ro)
theorem fnOf_is {f:Nat} {F:Fn} (h:fns[f]? = some F):f < 36∧fnOf f = F:=⟨(List.getElem?_eq_some_iff.mp h).1,by unfold fnOf;rw [List.getD_eq_getElem?_getD,h];rfl⟩
theorem callC_succ {N:Nat} (hΓ:G.Γ = callN tabs fns N G.n):CallOkC G (G.n+1) (callN tabs fns N (G.n+1)):=fun f vs fl v fl' he S s vals Q E hg H hgens hos hst hr q=>
  bind_el he fun F hF he=>iff_el he fun hl he=>by
    obtain ⟨h36,e⟩:=fnOf_is hF
    obtain ⟨fd,b,X⟩:=fn_is G.fixed h36
    rw [e] at X
    rw [←hΓ] at he
    exact Cg.run ⟨S,s,fl,vs,vals,hg,H,hgens,hos,hst,hr,fnA f,F,fd,b,X,of_decide_eq_true hl⟩ he q
theorem callOk_succ {N:Nat} (hΓ:G.Γ = callN tabs fns N G.n):CallOk G.w G.B (G.n+1) (callN tabs fns N (G.n+1)):=
  fun f vs fl v fl' he S s vals Q E hg H hgens hos hst hr q=>wpAny_call (callC_succ hΓ f vs fl v fl' he S s vals Q E hg H hgens hos hst hr q)
theorem callOk {w:World} {B:Heap} (hf:Fixed w B) (hl:Labs B) (N:Nat) (n:Nat):CallOk w B n (callN tabs fns N n):=by
  induction n with
  | zero=>exact fun _ _ _ _ _ he=>nomatch he
  | succ n ih=>exact callOk_succ (G:=⟨w,B,n,callN tabs fns N n,hf,ih,hl⟩) rfl
noncomputable def glN {w:World} {B:Heap} (hf:Fixed w B) (hl:Labs B) (n:Nat):Gl:=⟨w,B,n,cl n,hf,callOk hf hl 1000 n,hl⟩
end Mine
namespace Mine
noncomputable def YP0 (w:World) (h:Heap):Prop:=(Hfin w.params).StaysIn h
theorem e_a:(Str.ofString "a") = chr1 97:=by decide +kernel
theorem e_e:(Str.ofString "e") = chr1 101:=by decide +kernel
theorem e_i:(Str.ofString "i") = chr1 105:=by decide +kernel
theorem e_o:(Str.ofString "o") = chr1 111:=by decide +kernel
theorem e_u:(Str.ofString "u") = chr1 117:=by decide +kernel
theorem e_y:(Str.ofString "y") = chr1 121:=by decide +kernel
theorem e_g:(Str.ofString "è") = chr1 232:=by decide +kernel
theorem e_I:(Str.ofString "I") = chr1 73:=by decide +kernel
theorem e_j:(Str.ofString "j") = chr1 106:=by decide +kernel
theorem bears0 (P:Params):Bears P (gS0 P) (fun x=>[chr1 97,chr1 101,chr1 105,chr1 111,chr1 117,chr1 121,chr1 232].contains x) 7:=by
  have h:=bears_unled (bears_add (.ofString "è") 491 (bears_add (.ofString "y") 490 (bears_add (.ofString "u") 489 (bears_add (.ofString "o") 488 (bears_add (.ofString "i") 487 (bears_add (.ofString "e") 486 (bears_add (.ofString "a") 485 (bears_fresh P (!P.followText "set-order")))))))))
  rw [e_a,e_e,e_i,e_o,e_u,e_y,e_g] at h
  refine (congrArg (fun S=>Bears P (gS0 P) S 7) (funext fun k=>?_)).mp (by unfold gS0 st0;rw [e_a,e_e,e_i,e_o,e_u,e_y,e_g];exact h)
  rw [Bool.eq_iff_iff];simp [or_assoc]
theorem bears1 (P:Params):Bears P (gS1 P) (fun x=>[chr1 73,chr1 97,chr1 101,chr1 105,chr1 111,chr1 117,chr1 121,chr1 232].contains x) 8:=by
  have h:=bears_unled (bears_add (.ofString "è") 507 (bears_add (.ofString "y") 506 (bears_add (.ofString "u") 505 (bears_add (.ofString "o") 504 (bears_add (.ofString "i") 503 (bears_add (.ofString "e") 502 (bears_add (.ofString "a") 501 (bears_add (.ofString "I") 500 (bears_fresh P (!P.followText "set-order"))))))))))
  rw [e_a,e_e,e_i,e_o,e_u,e_y,e_g,e_I] at h
  refine (congrArg (fun S=>Bears P (gS1 P) S 8) (funext fun k=>?_)).mp (by unfold gS1 st0;rw [e_a,e_e,e_i,e_o,e_u,e_y,e_g,e_I];exact h)
  rw [Bool.eq_iff_iff];simp [or_assoc]
theorem bears2 (P:Params):Bears P (gS2 P) (fun x=>[chr1 97,chr1 101,chr1 105,chr1 106,chr1 111,chr1 117,chr1 121,chr1 232].contains x) 8:=by
  have h:=bears_unled (bears_add (.ofString "è") 524 (bears_add (.ofString "y") 523 (bears_add (.ofString "u") 522 (bears_add (.ofString "o") 521 (bears_add (.ofString "j") 520 (bears_add (.ofString "i") 519 (bears_add (.ofString "e") 518 (bears_add (.ofString "a") 517 (bears_fresh P (!P.followText "set-order"))))))))))
  rw [e_a,e_e,e_i,e_o,e_u,e_y,e_g,e_j] at h
  refine (congrArg (fun S=>Bears P (gS2 P) S 8) (funext fun k=>?_)).mp (by unfold gS2 st0;rw [e_a,e_e,e_i,e_o,e_u,e_y,e_g,e_j];exact h)
  rw [Bool.eq_iff_iff];simp [or_assoc]
theorem at230 (P:Params):(KK P).lookup 230 = some (gO0 P):=by kernel_rfl!
theorem at231 (P:Params):(KK P).lookup 231 = some (gO1 P):=by kernel_rfl!
theorem at232 (P:Params):(KK P).lookup 232 = some (gO2 P):=by kernel_rfl!
theorem tabGet_mem {β:Type} {a:Nat} {r:β} {l:List (Nat × β)} (h:tabGet a l = some r):(a,r) ∈ l:=by
  induction l with
  | nil=>cases h
  | cons x l ih=>
    unfold tabGet at h
    split at h
    · rename_i e;cases h;cases of_decide_eq_true e;exact .head _
    · exact .tail _ (ih h)
theorem sets_of {w:World} {B:Heap} (X:(KK w.params).In B):Sets w B:=by
  refine ⟨fun a l e=>?_⟩
  cases tabGet_mem e with
  | head=>exact ⟨_,7,X _ _ (at230 _),bears_obj (bears0 _) pw w rfl,by decide⟩
  | tail _ m=>cases m with
    | head=>exact ⟨_,8,X _ _ (at231 _),bears_obj (bears1 _) pw w rfl,by decide⟩
    | tail _ m=>cases m with
      | head=>exact ⟨_,8,X _ _ (at232 _),bears_obj (bears2 _) pw w rfl,by decide⟩
      | tail _ m=>cases m
noncomputable def epochO (o:Obj):Nat:=match o.data with
  | .seq _ n=>n
  | _=>0
noncomputable def asList (o:Obj) (vs:Array Value):Obj:=⟨.type "list",o.dict,.seq vs (epochO o),o.slots⟩
theorem amo_objs (P:Params):amoTab.map (fun x=>(KK P).lookup x.1) = amoTab.map fun x=>some (asList (((KK P).lookup x.1).getD default) (x.2.map Value.ref).toArray):=by kernel_rfl!
theorem amo_of {w:World} {B:Heap} (X:(KK w.params).In B) {a:Addr} {l:List Addr} (e:amoList a = some l):B.IsList a (l.map Value.ref).toArray:=
  ⟨_,X _ _ (map_at (amo_objs w.params) (tabGet_mem e)),rfl,_,rfl⟩
theorem fixed_of {w:World} {B:Heap} {mg mb:Str→Option Value} (Y:YP0 w B) (hg:B.Ns mainGlobals mg) (hb:B.Ns builtinsNs mb) (hbb:∀ x:Str,x ≠ "__name__"→mb x = bootBuiltins x) (hl:B.NoLimit):Fixed w B:=
  have X:(KK w.params).In B:=(kk_in w.params).keeps Y
  { low:=Y,glob:=⟨mg,hg⟩,bu:=⟨mb,hb,hbb⟩,lim:=hl,sets:=sets_of X,amo:=fun _ _ e=>amo_of X e }
noncomputable def clsD (o:Obj):ClassData:=match o.data with
  | .cls c=>c
  | _=>default
noncomputable def slotO (o:Obj) (i:Nat):Option Value:=(o.slots[i]?).getD none
noncomputable def excOf (C:Addr) (o:Obj):Obj:=excClassObj (clsD o).name (clsD o).qualname C (clsD o).ns (clsD o).bases baseX (clsD o).hasDict (clsD o).slotNames (clsD o).subclasses (clsD o).abstract (clsD o).collection o.dict (slotO o 0) (slotO o 1) (slotO o 2) (slotO o 3) (slotO o 5) "Exception.__new__"
noncomputable def labO (P:Params) (k:Nat):Obj:=((KK P).lookup (labA k)).getD default
theorem labObjs (P:Params):[0,1,2,3].map (fun k=>(KK P).lookup (labA k)) = [0,1,2,3].map fun k=>some (excOf (labA k) (labO P k)):=by kernel_rfl!
noncomputable def labChk (K:Frag) (o:Obj) (k:Nat):Bool:=nsIn K mainGlobals (labName k) == some (some (.ref (labA k))) && (nsOkIn K (clsD o).ns && nsIn K (clsD o).ns "__init__" == some none)
theorem labChks (P:Params):[0,1,2,3].all (fun k=>labChk (KK P) (labO P k) k) = true:=by kernel_rfl!
noncomputable def lab3:Nat→Nat
  | 0=>0 | 1=>1 | 2=>2 | _=>3
theorem lab3_is (k:Nat):labA (lab3 k) = labA k∧labName (lab3 k) = labName k∧lab3 k ∈ [0,1,2,3]:=match k with
  | 0=>⟨rfl,rfl,by decide⟩ | 1=>⟨rfl,rfl,by decide⟩ | 2=>⟨rfl,rfl,by decide⟩ | _+3=>⟨rfl,rfl,(by decide:3 ∈ [0,1,2,3])⟩
theorem labs_of {w:World} {B:Heap} {mg:Str→Option Value} (X:(KK w.params).In B) (hg:B.Ns mainGlobals mg):Labs B:=by
  refine ⟨mg,hg,fun k=>?_⟩
  obtain ⟨e1,e2,hm⟩:=lab3_is k
  rw [←e1,←e2]
  have h:=List.all_eq_true.mp (labChks w.params) _ hm
  have ho:=map_at (labObjs w.params) hm
  unfold labChk at h
  exact ⟨mg_of X hg (eq_of_beq (and_l h)),_,_,_,_,_,_,_,_,_,_,_,_,_,_,_,_,X _ _ ho,.of_isNs (isNs_of_in X (and_l (and_r h))),nsMap_none_of_in X (and_l (and_r h)) (eq_of_beq (and_r (and_r h)))⟩
end Mine
namespace Mine
theorem mk1 (P:Params):makesIn (KK P) 407 = true:=by kernel_rfl!
theorem mk2 (P:Params):findIn (KK P) (.ref 407) "__init__" = some (some (.ref 35)):=by kernel_rfl!
theorem mk3 (P:Params):typeIn (KK P) (.ref 35) = some (.type "function"):=by kernel_rfl!
theorem mk4 (P:Params):keepIn (KK P) (.ref 407) = true:=by kernel_rfl!
theorem w_tc:(Code.builtin "type.__call__" ⟨[.ref 407],[]⟩).weight = 1:=by decide +kernel
noncomputable def flE:FL:=List.replicate 9 none
theorem repA_inst {p:Addr × Addr} {a:Atom} {u:Value} (r:RepA none a u):RepA (some p) a u:=by
  cases a with
  | me=>obtain ⟨x,dx,e,_⟩:=r;cases e
  | _=>exact r
theorem reps_inst {p:Addr × Addr} {l:List Atom} {vs:List Value} (r:Reps none l vs):Reps (some p) l vs:=by
  induction r with
  | nil=>exact .nil
  | cons a _ ih=>exact .cons (repA_inst a) ih
theorem rep_inst {w:World} {fr:List Env} {p:Addr × Addr} {h:Heap} {v:AV} {val:Value} (r:Rep w fr none none h v val) (hv:v.isDR = false):Rep w fr (some p) none h v val:=by
  cases v with
  | «at» a=>exact repA_inst r
  | list l=>obtain ⟨a,vs,e,n,x,q⟩:=r;exact ⟨a,vs,e,n,x,reps_inst q⟩
  | tup l=>obtain ⟨a,vs,e,n,x,q⟩:=r;exact ⟨a,vs,e,n,x,reps_inst q⟩
  | own l=>obtain ⟨a,vs,e,n,x,q⟩:=r;cases n
  | _=>cases hv
noncomputable abbrev newH (h:Heap):Heap:=(h.push emptyDict).push (instObj 407 h.objs.size)
theorem new_keep (h:Heap):∀ b o,h.get? b = some o→(newH h).get? b = some o:=fun b o e=>Heap.get?_push_of_some _ (Heap.get?_push_of_some _ e)
theorem new_hinv {B h:Heap} {fr:List Env} {fl:FL} (H:HInv B fr none fl h):HInv B fr (some (h.objs.size+1,h.objs.size)) flE (newH h):=by
  have H0:=H.keep (new_keep h)
  have hdx0:h.get? h.objs.size = none:=get_size h
  have Fx:=Free.of H (Heap.get?_none_of_le (Nat.le_succ _))
  have Fd:=Free.of H hdx0
  have hobj:(newH h).get? (h.objs.size+1) = some ⟨.ref 407,some h.objs.size,.plain,#[]⟩:=by
    have:=Heap.get?_push_size (h.push emptyDict) (o:=instObj 407 h.objs.size) rfl
    rw [Heap.size_push] at this
    exact this
  have hns:(newH h).Ns1 h.objs.size fun _=>none:=Heap.Ns1.of_empty ((Heap.Ns.new h (.type "dict")).keeps fun b o e=>Heap.get?_push_of_some _ e)
  refine ⟨H0.stays,H0.frs,fun x' dx' e=>?_⟩
  cases e
  refine ⟨hobj,⟨_,hns,fun _ _=>rfl,fun i nm hnm=>?_⟩,⟨_,_,_,Heap.get?_push_of_some _ (Heap.get?_push_size _ rfl),rfl⟩,rfl,Nat.ne_of_lt (Nat.lt_succ_self _),Fx.f,Fd.f,Fx.b,Fd.b⟩
  rw [show flE[i]? = some none from (List.getElem?_replicate ..).trans (if_pos (List.getElem?_eq_some_iff.mp hnm).1)]
  rfl
variable {w:World} {B:Heap}
theorem new_inv {S:Sit} {σ:AS} {s s':Shared} {fl1:FL} (hI:S.inst = none) (V:Inv w B S none σ s) (H:HInv B S.fr (some (s.heap.objs.size+1,s.heap.objs.size)) fl1 s'.heap) (K:Kp S.fr [s.heap.objs.size] (newH s.heap) s'.heap) (hg:s'.gens = #[]) (ho:s'.os = S.os) :
    Inv w B { S with inst:=some (s.heap.objs.size+1,s.heap.objs.size) } none ⟨σ.loc,fl1⟩ s':=by
  have kL:∀ b o,s.heap.get? b = some o→b ∉ [s.heap.objs.size]:=fun b o e m=>by
    cases List.mem_singleton.mp m
    rw [get_size] at e;cases e
  have slots:∀ b o,s.heap.get? b = some o→∃ sl,s'.heap.get? b = some { o with slots:=sl }:=fun b o e=>K.slots b o (new_keep _ b o e) (kL b o e)
  exact {
    toHInv:=H
    loc:=let ⟨m,hm⟩:=V.loc;⟨m,ns_slots hm fun o e=>slots _ o e⟩
    vars:=fun i v e=>by
      obtain ⟨y,val,e1,e2,e3⟩:=V.vars i v e
      have hdr:=V.dr i v e
      rw [hI] at e3
      refine ⟨y,val,e1,?_,(rep_inst e3 hdr).keep3 hdr fun b o eb _=>slots b o eb⟩
      rcases e2 with ⟨k1,m1,hn1,hm1⟩ | ⟨k1,c,hc,o,hoc,hdc⟩
      · exact .inl ⟨k1,m1,ns_slots hn1 fun o e=>slots _ o e,hm1⟩
      · obtain ⟨sl,e'⟩:=slots c o hoc
        exact .inr ⟨k1,c,hc,_,e',hdc⟩
    dr:=V.dr
    len:=V.len
    ld:=fun m=>by
      obtain ⟨mm,o,es,ep,ho,_⟩:=V.loc
      exact kL _ o ho m
    gown:=fun a e=>nomatch e
    gens:=hg
    os:=ho }
theorem Good.under {n:Nat} {S:Sit} (hg:Good (n+2) B S) (I:Option (Addr × Addr)):Good (n+1) B ⟨S.A.under (.builtin "type.__call__" ⟨[.ref 407],[]⟩),S.env,S.fr,S.names,I,S.os⟩:=
  { stack:=by show pushEnvs [] S.A.frames = _;exact hg.stack
    handled:=hg.handled
    depth:=by have:=hg.depth;show S.A.depth+(Code.builtin "type.__call__" ⟨[.ref 407],[]⟩).weight+(n+1)+10 ≤ _;rw [w_tc];omega
    units:=by have:=hg.units;show S.A.units+1+4 * (n+1)+200 ≤ _;omega
    kind:=hg.kind,globals:=hg.globals,builtins:=hg.builtins,nodup:=hg.nodup,newL:=hg.newL }
theorem new_ok (hf:Fixed w B) (hlab:Labs B) {n:Nat} {S:Sit} {σ:AS} {s:Shared} {fl1:FL} {Q:Value→Shared→Prop} {E:Value→Shared→Prop} (hg:Good (n+2) B S) (hI:S.inst = none) (V:Inv w B S none σ s)
    (he:cl (n+1) 0 [.at .me] flE = some (.at (.cst .none),fl1))
    (q:∀ x dx s',Inv w B { S with inst:=some (x,dx) } none ⟨σ.loc,fl1⟩ s'→Q (.ref x) s'):wpAny (model pw w) S.A (call (.ref 407) []) Q E s:=by
  have X:(KK w.params).In s.heap:=(kIn hf).keeps V.stays
  refine wpAny_call (make_core (h:=s.heap) (g:=s.gens) (d:=s.drawn) (t:=s.toks) (os:=s.os) (makes_of X (mk1 _)) (looks_findIn X (mk2 _)) (fun self=>bind_fn X self (mk3 _)) (.inl rfl) ?_)
  refine codeAny_mono (callC_succ (G:=glN hf hlab n) (N:=1000) rfl 0 [.at .me] flE _ fl1 he ⟨S.A.under (.builtin "type.__call__" ⟨[.ref 407],[]⟩),S.env,S.fr,S.names,some (s.heap.objs.size+1,s.heap.objs.size),S.os⟩ _ [.ref (s.heap.objs.size+1)] (fun val s'=>val = .none∧Q (.ref (s.heap.objs.size+1)) s') E (hg.under _) (new_hinv (hI▸V.toHInv)) V.gens V.os rfl (.cons ⟨_,_,rfl,rfl⟩ .nil) fun val s' H2 K2 hgn hos r2=>⟨r2,q _ _ s' (new_inv hI V H2 K2 hgn hos)⟩) fun r s' hr=>?_
  cases r with
  | ok f=>cases f<;>first | exact hr | exact ⟨hr.1,hr.2⟩
  | error e=>exact hr
end Mine
namespace Mine
theorem block_app {G:Gl} {c:Cx} {N:Nat} {l₂:List Stmt} {σ':AS} {Q:Flow→Shared→Prop} (l₁:List Stmt):∀ (x:At G c),GS x.S→evB tabs G.Γ N (toB c l₁) x.σ = some (σ',.next)→
    (∀ r:RS x σ' .next,wpAny (model pw G.w) x.S.A (execs l₂ x.S.env) Q x.E r.s)→Wp x (execs (l₁ ++ l₂) x.S.env) Q:=by
  induction l₁ with
  | nil=>intro x hg he q;cases he;exact q ⟨x.g,x.s,.next,x.inv,.refl ..,rfl⟩
  | cons st r ih=>
    intro x hg he q
    exact wpAny_execs_cons (thenN_el he (fun σ₁ hx he=>os_toS 12 st x hg σ₁ .next (kC (fun s=>wpAny (model pw G.w) x.S.A (execs (r ++ l₂) x.S.env) Q x.E s) Q) hx
      ⟨fun ⟨g,s,f,V,y,o⟩=>by cases o;exact ih (x.go V) hg he fun r=>q (r.back V y),fun _ hk=>nomatch hk⟩) fun hn=>absurd rfl hn)
noncomputable def lawNames:List Str:=[.ofString "script",.ofString "first",.ofString "second",.ofString "third",.ofString "stemmer"]
noncomputable def lawIn (l:List Int):AS:=⟨[some (.list (l.map Atom.int)),none,none,none,none],[]⟩
noncomputable def LawGives (l:List Int):Prop:=∃ (σ₁:AS) (fl1:FL) (σ':AS),
  evB tabs (cl 40) 1000 c_law1 (lawIn l) = some (σ₁,.next)∧okSet 4 σ₁ = true∧hasOwn σ₁ = false∧cl 40 0 [.at .me] flE = some (.at (.cst .none),fl1) ∧
  evB tabs (cl 40) 1000 c_law2 ⟨σ₁.loc.set 4 (some (.at .me)),fl1⟩ = some (σ',.ret (ab true))
theorem Good.inst {n n':Nat} {B:Heap} {A:Around} {env:Env} {fr:List Env} {ns:List Str} {os:OsState} (h:Good n B ⟨A,env,fr,ns,none,os⟩) (hn:n' ≤ n) (I:Option (Addr × Addr)):Good n' B ⟨A,env,fr,ns,I,os⟩:=
  { stack:=h.stack,handled:=h.handled,depth:=Nat.le_trans (Nat.add_le_add_right (Nat.add_le_add_left hn _) _) h.depth,units:=Nat.le_trans (Nat.add_le_add_right (Nat.add_le_add_left (Nat.mul_le_mul_left 4 hn) _) _) h.units,kind:=h.kind,globals:=h.globals,builtins:=h.builtins,nodup:=h.nodup,newL:=h.newL }
theorem law_walk {w:World} {B:Heap} (hf:Fixed w B) (hlab:Labs B) {A:Around} {env:Env} {fr:List Env} {os:OsState} {s:Shared} {l:List Int} {Q:Flow→Shared→Prop} {E:Value→Shared→Prop}
    {l₁ l₂:List Stmt} {p1 p2 p3 p4:Pos} {c:Cx} (hcn:c.names = lawNames) (hck:c.kinds = env.scope.names)
    (h1:toB c l₁ = c_law1) (h2:toB c l₂ = c_law2) (k4:c.kinds.lookup (.ofString "stemmer") = some .local) (k5:isGl c (sName "DutchPorterStemmer") = true)
    (hg:Good 42 B ⟨A,env,fr,lawNames,none,os⟩) (hgs:GS ⟨A,env,fr,lawNames,none,os⟩) (V:Inv w B ⟨A,env,fr,lawNames,none,os⟩ none (lawIn l) s) (law:LawGives l)
    (q:∀ s',B.StaysIn s'.heap→s'.gens = #[]→s'.os = os→Q (.ret (.bool true)) s') :
    wpAny (model pw w) A (execs (l₁ ++ .Assign [.Name (.ofString "stemmer") p1] (.Call (.Name (.ofString "DutchPorterStemmer") p2) [] [] p3) p4 :: l₂) env) Q E s:=by
  obtain ⟨σ₁,fl1,σ',e1,e2,e3,e4,e5⟩:=law
  let G:=glN hf hlab 40
  have L:Loc c 4 (.ofString "stemmer"):=⟨by rw [hcn];rfl,k4⟩
  refine block_app (G:=G) (N:=1000) l₁ ⟨⟨A,env,fr,lawNames,none,os⟩,none,lawIn l,s,E,⟨hcn.symm,hck.symm⟩,(hg.inst (n':=40) (by decide) none:Good G.n B _),(V:Inv G.w G.B _ none _ s)⟩ hgs (h1.symm▸e1) fun r=>?_
  obtain ⟨g,s₁,f,V₁,y₁,o₁⟩:=r
  cases gnone V₁ e3
  let x₁:At G c:=⟨⟨A,env,fr,lawNames,none,os⟩,none,σ₁,s₁,E,⟨hcn.symm,hck.symm⟩,hg.inst (n':=40) (by decide) none,V₁⟩
  refine wpAny_execs_cons (wpAny_Assign_Name ((arm_eval_Call_Name' ..).symm▸wpAny_bind (glob_at x₁ k5 (t1 _) (callW (xs:=[]) (first:=[]) rfl (Calls.spliced_nil ⟨keepK (mk4 _) x₁.kin,?_⟩)))) rfl)
  refine new_ok (S:=⟨A,env,fr,lawNames,none,os⟩) hf hlab (n:=39) (hg.inst (n':=41) (by decide) none) rfl V₁ e4 fun x dx s₂ V₂=>?_
  let x₂:At G c:=⟨⟨A,env,fr,lawNames,some (x,dx),os⟩,none,_,s₂,E,⟨hcn.symm,hck.symm⟩,hg.inst (n':=40) (by decide) _,V₂⟩
  refine store_at x₂ ⟨hgs.outer,hgs.frame⟩ L (v:=.at .me) e2 ⟨x,dx,rfl,rfl⟩ rfl fun s₃ T=>?_
  have hb:=bs_toB (G:=G) (c:=c) (N:=1000) l₂
  rw [h2] at hb
  refine hb (x₂.go T.inv) ⟨hgs.outer,hgs.frame⟩ σ' _ Q e5 ⟨fun r=>?_,fun k hk=>nomatch hk⟩
  obtain ⟨g',s₄,f',V₄,y₄,val,rfl,ro,_⟩:=r
  cases ro
  exact q s₄ V₄.stays V₄.gens V₄.os
end Mine
namespace Mine
noncomputable def tx (l:List Nat):Str:=⟨l.toArray⟩
theorem tx_len (l:List Nat):(tx l).length = l.length:=rfl
theorem tx_get (l:List Nat) (i:Nat):(tx l).cps[i]? = l[i]?:=List.getElem?_toArray ..
noncomputable abbrev mkF (l:List Nat) (c lim lb b k:Int) (f6 f7 f8:Option Atom):FL:=[aS (tx l),aI c,aI lim,aI lb,aI b,aI k,f6,f7,f8]
noncomputable def inSet (a:Addr) (ch:Nat):Bool:=((setAt a).getD []).contains (chr1 ch)
theorem idx_tx {l:List Nat} {c:Nat} (h:small l.length = true) {ch:Nat} (hc:l[c]? = some ch):idxV (.at (.str (tx l))) (.at (.int c)) = some (as (chr1 ch)):=by
  show iff (decide (0 ≤ (c:Int))) (iff (small l.length) (((tx l).cps[(c:Int).toNat]?).map fun c=>as (chr1 c))) = _
  rw [h,decide_eq_true (Int.natCast_nonneg c),Int.toNat_natCast,tx_get,hc];rfl
theorem in_set {a:Addr} {L:List Str} (hL:setAt a = some L) (ch:Nat):inV (chr1 ch) (.at (.cst (.ref a))) = some (inSet a ch):=by
  show (setAt a).map _ = some (((setAt a).getD []).contains (chr1 ch))
  rw [hL];rfl
theorem notin_set {a:Addr} {L:List Str} (hL:setAt a = some L) (ch:Nat):cmpV .notin (as (chr1 ch)) (.at (.cst (.ref a))) = some (!inSet a ch):=congrArg (Option.map (!·)) (in_set hL ch)
theorem len_tx {y:List Nat} (h:small y.length = true):lenV (.at (.str (tx y))) = some (ai y.length):=by
  show iff (small y.length) (some (ai y.length)) = _
  rw [h];rfl
theorem lt62 {n:Nat} (h:n < 1000):decide ((n:Int) < 2 ^ 62) = true:=decide_eq_true (Int.lt_trans (Int.ofNat_lt.mpr h) (by decide))
theorem slice_tx {l:List Nat} {lo hi:Nat} (hs:small l.length = true) (h1:lo < 1000) (h2:hi < 1000):sliceV (.at (.str (tx l))) (some (lo:Int)) (some (hi:Int)) = some (as (tx ((l.take hi).drop lo))):=by
  show iff (small l.length && (decide (0 ≤ (lo:Int)) && (decide (0 ≤ (hi:Int)) && (decide ((lo:Int) < 2 ^ 62) && decide ((hi:Int) < 2 ^ 62))))) _ = _
  rw [hs,decide_eq_true (Int.natCast_nonneg lo),decide_eq_true (Int.natCast_nonneg hi),lt62 h1,lt62 h2]
  rfl
theorem from_tx {l:List Nat} {lo:Nat} (hs:small l.length = true) (h1:lo < 1000):sliceV (.at (.str (tx l))) (some (lo:Int)) none = some (as (tx (l.drop lo))):=by
  show iff (small l.length && (decide (0 ≤ (lo:Int)) && (true && (decide ((lo:Int) < 2 ^ 62) && true)))) _ = _
  rw [hs,decide_eq_true (Int.natCast_nonneg lo),lt62 h1]
  rfl
theorem to_tx {l:List Nat} {hi:Nat} (hs:small l.length = true) (h1:hi < 1000):sliceV (.at (.str (tx l))) none (some (hi:Int)) = some (as (tx (l.take hi))):=by
  show iff (small l.length && (true && (decide (0 ≤ (hi:Int)) && (true && decide ((hi:Int) < 2 ^ 62))))) _ = _
  rw [hs,decide_eq_true (Int.natCast_nonneg hi),lt62 h1]
  rfl
theorem ends_tx {x y:List Nat} (h1:small x.length = true) (h2:small y.length = true):endsV (.at (.str (tx x))) (.at (.str (tx y))) = some (ab (y.isSuffixOf x)):=by
  show iff (small x.length && small y.length) (some (ab (y.isSuffixOf x))) = _
  rw [h1,h2];rfl
theorem tx_app (x y:List Nat):tx x ++ tx y = tx (x ++ y):=by
  refine Str.ext' ?_
  rw [Str.cps_append]
  simp [tx]
theorem add_tx {x y:List Nat} (h:small (x.length+y.length) = true):binV .add (.at (.str (tx x))) (.at (.str (tx y))) = some (as (tx (x ++ y))):=by
  show iff (small (x.length+y.length)) (some (as (tx x ++ tx y))) = _
  rw [h,tx_app];rfl
variable {n:Nat} {l:List Nat} {f6 f7 f8:Option Atom} {Γ:Call} {N:Nat} {loc:List (Option AV)}
theorem F_inc {c lim lb b k:Int}:evS tabs Γ N (.augf 1 .add (.int 1)) ⟨some (.at .me) :: loc,mkF l c lim lb b k f6 f7 f8⟩ = some (⟨some (.at .me) :: loc,mkF l (c+1) lim lb b k f6 f7 f8⟩,.next):=S_augf rfl rfl E_int rfl rfl
theorem F_dec {c lim lb b k:Int}:evS tabs Γ N (.augf 1 .sub (.int 1)) ⟨some (.at .me) :: loc,mkF l c lim lb b k f6 f7 f8⟩ = some (⟨some (.at .me) :: loc,mkF l (c - 1) lim lb b k f6 f7 f8⟩,.next):=S_augf rfl rfl E_int rfl rfl
theorem F_ket {c lim lb b k:Int}:evS tabs Γ N (.setf 5 (.fld 1)) ⟨some (.at .me) :: loc,mkF l c lim lb b k f6 f7 f8⟩ = some (⟨some (.at .me) :: loc,mkF l c lim lb b c f6 f7 f8⟩,.next):=S_setf rfl (E_fld rfl rfl) rfl
theorem F_bra {c lim lb b k:Int}:evS tabs Γ N (.setf 4 (.fld 1)) ⟨some (.at .me) :: loc,mkF l c lim lb b k f6 f7 f8⟩ = some (⟨some (.at .me) :: loc,mkF l c lim lb c k f6 f7 f8⟩,.next):=S_setf rfl (E_fld rfl rfl) rfl
theorem F_curv {c lim lb b k z:Int} {i:Nat} (h:(some (.at .me) :: loc)[i]? = some (vI z)):evS tabs Γ N (.setf 1 (.var i)) ⟨some (.at .me) :: loc,mkF l c lim lb b k f6 f7 f8⟩ = some (⟨some (.at .me) :: loc,mkF l z lim lb b k f6 f7 f8⟩,.next):=S_setf rfl (E_var h) rfl
theorem F_back {c lim lb b k z:Int} {i:Nat} (h:(some (.at .me) :: loc)[i]? = some (vI z)):evS tabs Γ N (.setf 1 (.bin .sub (.fld 2) (.var i))) ⟨some (.at .me) :: loc,mkF l c lim lb b k f6 f7 f8⟩ = some (⟨some (.at .me) :: loc,mkF l (lim - z) lim lb b k f6 f7 f8⟩,.next):=S_setf rfl (E_bin (E_fld rfl rfl) (E_var h) rfl) rfl
theorem F_c {c lim lb b k:Int}:evE tabs Γ (.fld 1) ⟨some (.at .me) :: loc,mkF l c lim lb b k f6 f7 f8⟩ = some (ai c,mkF l c lim lb b k f6 f7 f8):=E_fld rfl rfl
theorem F_l {c lim lb b k:Int}:evE tabs Γ (.fld 2) ⟨some (.at .me) :: loc,mkF l c lim lb b k f6 f7 f8⟩ = some (ai lim,mkF l c lim lb b k f6 f7 f8):=E_fld rfl rfl
theorem F_t {c lim lb b k:Int}:evE tabs Γ (.fld 0) ⟨some (.at .me) :: loc,mkF l c lim lb b k f6 f7 f8⟩ = some (as (tx l),mkF l c lim lb b k f6 f7 f8):=E_fld rfl rfl
theorem F_ch {c:Nat} {lim lb b k:Int} {ch:Nat} (hs:small l.length = true) (hc:l[c]? = some ch):evE tabs Γ (.idx (.fld 0) (.fld 1)) ⟨some (.at .me) :: loc,mkF l c lim lb b k f6 f7 f8⟩ = some (as (chr1 ch),mkF l c lim lb b k f6 f7 f8):=E_idx F_t F_c (idx_tx hs hc)
theorem set_current_spec (x:Str) (hx:small x.length = true) (f0 f1 f2 f3 f4 f5 f6 f7 f8:Option Atom) :
    cl (n+1) 1 [.at .me,.at (.str x)] [f0,f1,f2,f3,f4,f5,f6,f7,f8] = some (.at (.cst .none),[aS x,aI 0,aI x.length,aI 0,aI 0,aI x.length,f6,f7,f8]):=by
  rw [cl_at (F:=⟨2,_,c_set_current⟩) rfl rfl]
  have hl:lenV (.at (.str x)) = some (ai x.length):=by
    show iff (small x.length) (some (ai x.length)) = _
    rw [hx];rfl
  exact ret_of ((B_next (S_setf rfl (E_var rfl) rfl)).trans ((B_next (S_setf rfl E_int rfl)).trans ((B_next (S_setf rfl (E_len (E_fld rfl rfl) hl) rfl)).trans
    ((B_next (S_setf rfl E_int rfl)).trans ((B_next (S_setf rfl (E_fld rfl rfl) rfl)).trans ((B_next (S_setf rfl (E_fld rfl rfl) rfl)).trans B_nil)))))) rfl
theorem set_spec (hs:small l.length = true) (f0 f1 f2 f3 f4 f5 f6 f7 f8:Option Atom):cl (n+1) 1 [.at .me,as (tx l)] [f0,f1,f2,f3,f4,f5,f6,f7,f8] = some (.at (.cst .none),mkF l 0 l.length 0 0 l.length f6 f7 f8):=set_current_spec (tx l) hs ..
variable {lb b k:Int}
theorem T_full {c:Nat} {lim:Nat} {v:Bool} (h:decide (lim ≤ c) = v):evT tabs Γ (.cmp .ge (.fld 1) (.fld 2)) ⟨some (.at .me) :: loc,mkF l c lim lb b k f6 f7 f8⟩ = some (v,mkF l c lim lb b k f6 f7 f8):=by
  refine T_cmp F_c F_l ?_
  show some (decide ((c:Int) ≥ lim)) = _
  rw [←h];exact congrArg some (decide_eq_decide.mpr Int.ofNat_le)
theorem T_more {c:Nat} {lim:Nat} {v:Bool} (h:decide (c < lim) = v):evT tabs Γ (.cmp .lt (.fld 1) (.fld 2)) ⟨some (.at .me) :: loc,mkF l c lim lb b k f6 f7 f8⟩ = some (v,mkF l c lim lb b k f6 f7 f8):=by
  refine T_cmp F_c F_l ?_
  show some (decide ((c:Int) < lim)) = _
  rw [←h];exact congrArg some (decide_eq_decide.mpr Int.ofNat_lt)
theorem in_grouping_end {a:Addr} {lim:Nat} {c:Nat} (h:lim ≤ c):cl (n+1) 3 [.at .me,.at (.cst (.ref a))] (mkF l c lim lb b k f6 f7 f8) = some (ab false,mkF l c lim lb b k f6 f7 f8):=by
  rw [cl_at (F:=⟨2,_,c_in_grouping⟩) rfl rfl]
  exact ret_of (B_quit (T_full (loc:=[_]) (decide_eq_true h))) rfl
theorem in_grouping_at {a:Addr} {L:List Str} (hL:setAt a = some L) (hs:small l.length = true) {lim c ch:Nat} (h:c < lim) (hc:l[c]? = some ch):cl (n+1) 3 [.at .me,.at (.cst (.ref a))] (mkF l c lim lb b k f6 f7 f8) =
    if inSet a ch then some (ab true,mkF l ((c+1:Nat):Int) lim lb b k f6 f7 f8) else some (ab false,mkF l c lim lb b k f6 f7 f8):=by
  rw [cl_at (F:=⟨2,_,c_in_grouping⟩) rfl rfl]
  refine (congrArg retOf (B_skip (T_full (loc:=[_]) (decide_eq_false (Nat.not_le.mpr h))))).trans ?_
  have t:=T_cmp (T:=tabs) (Γ:=cl n) (F_ch (loc:=[some (.at (.cst (.ref a)))]) (lim:=lim) (lb:=lb) (b:=b) (k:=k) (f6:=f6) (f7:=f7) (f8:=f8) hs hc) (E_var (i:=1) rfl) (notin_set hL ch)
  cases hi:inSet a ch with
  | true=>
    rw [hi] at t
    exact ret_of ((B_skip t).trans ((B_next F_inc).trans ret_true)) rfl
  | false=>
    rw [hi] at t
    exact ret_of (B_quit t) rfl
theorem len_app (pre:List Nat) (ch:Nat):(pre.length:Int)+1 = ((pre ++ [ch]).length:Nat):=by rw [List.length_append];rfl
theorem go_out_loop {a:Addr} {L:List Str} (hL:setAt a = some L) (hs:small l.length = true):∀ (r pre:List Nat) (N:Nat),l = pre ++ r→r.length < N→
    whileN (evT tabs (cl n) (.cmp .lt (.fld 1) (.fld 2))) (fun σ=>evB tabs (cl n) 1000 (.cons (.ite (.cmp .isin (.idx (.fld 0) (.fld 1)) (.var 1)) (.cons (.ret (.bool true)) .nil) .nil) (.cons (.augf 1 .add (.int 1)) .nil)) σ) N
      ⟨[some (.at .me),some (.at (.cst (.ref a)))],mkF l pre.length l.length lb b k f6 f7 f8⟩ =
    match r.findIdx? (inSet a) with
    | some i=>some (⟨[some (.at .me),some (.at (.cst (.ref a)))],mkF l ((pre.length+i:Nat):Int) l.length lb b k f6 f7 f8⟩,.ret (ab true))
    | none=>some (⟨[some (.at .me),some (.at (.cst (.ref a)))],mkF l l.length l.length lb b k f6 f7 f8⟩,.next)
  | [],pre,N+1,h,_=>by
    rw [List.append_nil] at h
    subst h
    exact while_end (T_more (loc:=[_]) (decide_eq_false (Nat.lt_irrefl _)))
  | ch :: r,pre,N+1,h,hN=>by
    have hc:l[pre.length]? = some ch:=by subst h;simp
    have ih:=go_out_loop hL hs r (pre ++ [ch]) N (by rw [h,List.append_assoc];rfl) (Nat.lt_of_succ_lt_succ hN)
    have ht:=T_more (Γ:=cl n) (l:=l) (lb:=lb) (b:=b) (k:=k) (f6:=f6) (f7:=f7) (f8:=f8) (loc:=[some (.at (.cst (.ref a)))]) (decide_eq_true (List.getElem?_eq_some_iff.mp hc).1)
    have hi:=T_cmp (T:=tabs) (Γ:=cl n) (F_ch (loc:=[some (.at (.cst (.ref a)))]) (lim:=l.length) (lb:=lb) (b:=b) (k:=k) (f6:=f6) (f7:=f7) (f8:=f8) hs hc) (E_var (i:=1) rfl) (show cmpV .isin (as (chr1 ch)) (.at (.cst (.ref a))) = some (inSet a ch) from in_set hL ch)
    rw [List.findIdx?_cons]
    cases hch:inSet a ch with
    | true=>
      rw [hch] at hi
      exact while_ret ht (B_ret ((S_true hi).trans ret_true))
    | false=>
      rw [hch] at hi
      rw [←len_app] at ih
      refine (while_next ht ((B_skip hi).trans (B_one.trans F_inc))).trans (ih.trans ?_)
      rw [List.length_append]
      cases r.findIdx? (inSet a) with
      | none=>rfl
      | some i=>exact congrArg (fun z:Nat=>some ((⟨[some (.at .me),some (.at (.cst (.ref a)))],mkF l z l.length lb b k f6 f7 f8⟩:AS),Out.ret (ab true))) (show pre.length+[ch].length+i = pre.length+(i+1) from (Nat.add_assoc ..).trans (congrArg _ (Nat.add_comm 1 i)))
theorem go_in_loop {a:Addr} {L:List Str} (hL:setAt a = some L) (hs:small l.length = true):∀ (r pre:List Nat) (N:Nat),l = pre ++ r→r.length < N→
    whileN (evT tabs (cl n) (.cmp .lt (.fld 1) (.fld 2))) (fun σ=>evB tabs (cl n) 1000 (.cons (.ite (.cmp .notin (.idx (.fld 0) (.fld 1)) (.var 1)) (.cons (.ret (.bool true)) .nil) .nil) (.cons (.augf 1 .add (.int 1)) .nil)) σ) N
      ⟨[some (.at .me),some (.at (.cst (.ref a)))],mkF l pre.length l.length lb b k f6 f7 f8⟩ =
    match r.findIdx? (fun c=>!inSet a c) with
    | some i=>some (⟨[some (.at .me),some (.at (.cst (.ref a)))],mkF l ((pre.length+i:Nat):Int) l.length lb b k f6 f7 f8⟩,.ret (ab true))
    | none=>some (⟨[some (.at .me),some (.at (.cst (.ref a)))],mkF l l.length l.length lb b k f6 f7 f8⟩,.next)
  | [],pre,N+1,h,_=>by
    rw [List.append_nil] at h
    subst h
    exact while_end (T_more (loc:=[_]) (decide_eq_false (Nat.lt_irrefl _)))
  | ch :: r,pre,N+1,h,hN=>by
    have hc:l[pre.length]? = some ch:=by subst h;simp
    have ih:=go_in_loop hL hs r (pre ++ [ch]) N (by rw [h,List.append_assoc];rfl) (Nat.lt_of_succ_lt_succ hN)
    have ht:=T_more (Γ:=cl n) (l:=l) (lb:=lb) (b:=b) (k:=k) (f6:=f6) (f7:=f7) (f8:=f8) (loc:=[some (.at (.cst (.ref a)))]) (decide_eq_true (List.getElem?_eq_some_iff.mp hc).1)
    have hi:=T_cmp (T:=tabs) (Γ:=cl n) (F_ch (loc:=[some (.at (.cst (.ref a)))]) (lim:=l.length) (lb:=lb) (b:=b) (k:=k) (f6:=f6) (f7:=f7) (f8:=f8) hs hc) (E_var (i:=1) rfl) (notin_set hL ch)
    rw [List.findIdx?_cons]
    cases hch:inSet a ch with
    | false=>
      rw [hch] at hi
      exact while_ret ht (B_ret ((S_true hi).trans ret_true))
    | true=>
      rw [hch] at hi
      rw [←len_app] at ih
      refine (while_next ht ((B_skip hi).trans (B_one.trans F_inc))).trans (ih.trans ?_)
      rw [List.length_append]
      cases r.findIdx? (fun c=>!inSet a c) with
      | none=>rfl
      | some i=>exact congrArg (fun z:Nat=>some ((⟨[some (.at .me),some (.at (.cst (.ref a)))],mkF l z l.length lb b k f6 f7 f8⟩:AS),Out.ret (ab true))) (show pre.length+[ch].length+i = pre.length+(i+1) from (Nat.add_assoc ..).trans (congrArg _ (Nat.add_comm 1 i)))
theorem go_out_spec {a:Addr} {L:List Str} (hL:setAt a = some L) (hs:l.length < 1000) {c:Nat} (hc:c ≤ l.length) :
    cl (n+1) 5 [.at .me,.at (.cst (.ref a))] (mkF l c l.length lb b k f6 f7 f8) =
    match (l.drop c).findIdx? (inSet a) with
    | some i=>some (ab true,mkF l ((c+i:Nat):Int) l.length lb b k f6 f7 f8)
    | none=>some (ab false,mkF l l.length l.length lb b k f6 f7 f8):=by
  have h:=go_out_loop (n:=n) (l:=l) (lb:=lb) (b:=b) (k:=k) (f6:=f6) (f7:=f7) (f8:=f8) hL (sm hs) (l.drop c) (l.take c) 1000 (List.take_append_drop ..).symm (Nat.lt_of_le_of_lt (by rw [List.length_drop];exact Nat.sub_le ..) hs)
  rw [List.length_take,Nat.min_eq_left hc] at h
  rw [cl_at (F:=⟨2,_,c_go_out_grouping⟩) rfl rfl]
  cases hi:(l.drop c).findIdx? (inSet a) with
  | some i=>rw [hi] at h;exact ret_of (B_ret (S_while.trans h)) rfl
  | none=>rw [hi] at h;exact ret_of ((B_next (S_while.trans h)).trans ret_false) rfl
theorem go_in_spec {a:Addr} {L:List Str} (hL:setAt a = some L) (hs:l.length < 1000) {c:Nat} (hc:c ≤ l.length) :
    cl (n+1) 4 [.at .me,.at (.cst (.ref a))] (mkF l c l.length lb b k f6 f7 f8) =
    match (l.drop c).findIdx? (fun c=>!inSet a c) with
    | some i=>some (ab true,mkF l ((c+i:Nat):Int) l.length lb b k f6 f7 f8)
    | none=>some (ab false,mkF l l.length l.length lb b k f6 f7 f8):=by
  have h:=go_in_loop (n:=n) (l:=l) (lb:=lb) (b:=b) (k:=k) (f6:=f6) (f7:=f7) (f8:=f8) hL (sm hs) (l.drop c) (l.take c) 1000 (List.take_append_drop ..).symm (Nat.lt_of_le_of_lt (by rw [List.length_drop];exact Nat.sub_le ..) hs)
  rw [List.length_take,Nat.min_eq_left hc] at h
  rw [cl_at (F:=⟨2,_,c_go_in_grouping⟩) rfl rfl]
  cases hi:(l.drop c).findIdx? (fun c=>!inSet a c) with
  | some i=>rw [hi] at h;exact ret_of (B_ret (S_while.trans h)) rfl
  | none=>rw [hi] at h;exact ret_of ((B_next (S_while.trans h)).trans ret_false) rfl
variable {lim:Int}
theorem T_lb {c:Int} {v:Bool} (h:decide (c ≤ lb) = v):evT tabs Γ (.cmp .le (.fld 1) (.fld 3)) ⟨some (.at .me) :: loc,mkF l c lim lb b k f6 f7 f8⟩ = some (v,mkF l c lim lb b k f6 f7 f8):=T_cmp F_c (E_fld rfl rfl) (congrArg some h)
theorem out_b_end {a:Addr}:cl (n+1) 6 [.at .me,.at (.cst (.ref a))] (mkF l 0 lim 0 b k f6 f7 f8) = some (ab false,mkF l 0 lim 0 b k f6 f7 f8):=by
  rw [cl_at (F:=⟨2,_,c_out_grouping_b⟩) rfl rfl]
  exact ret_of (B_quit (T_lb (loc:=[_]) (decide_eq_true (Int.le_refl 0)))) rfl
theorem out_b_at {a:Addr} {L:List Str} (hL:setAt a = some L) (hs:small l.length = true) {c ch:Nat} (hc:l[c]? = some ch):cl (n+1) 6 [.at .me,.at (.cst (.ref a))] (mkF l ((c+1:Nat):Int) lim 0 b k f6 f7 f8) =
    if inSet a ch then some (ab false,mkF l ((c+1:Nat):Int) lim 0 b k f6 f7 f8) else some (ab true,mkF l c lim 0 b k f6 f7 f8):=by
  rw [cl_at (F:=⟨2,_,c_out_grouping_b⟩) rfl rfl]
  have e1:((c+1:Nat):Int) - 1 = c:=by omega
  refine (congrArg retOf (B_skip (T_lb (loc:=[_]) (decide_eq_false (by omega))))).trans ?_
  have hb:binV .sub (ai ((c+1:Nat):Int)) (ai 1) = some (ai c):=sub_ai e1
  have t:=T_cmp (T:=tabs) (Γ:=cl n) (o:=.notin) (E_idx (F_t (loc:=[some (.at (.cst (.ref a)))]) (c:=((c+1:Nat):Int)) (lim:=lim) (lb:=0) (b:=b) (k:=k) (f6:=f6) (f7:=f7) (f8:=f8)) (E_bin F_c E_int hb) (idx_tx hs hc)) (E_var (i:=1) rfl) (notin_set hL ch)
  cases hi:inSet a ch with
  | true=>rw [hi] at t;exact ret_of ((B_skip t).trans ret_false) rfl
  | false=>
    rw [hi] at t
    have:=F_dec (Γ:=cl n) (N:=1000) (l:=l) (c:=((c+1:Nat):Int)) (lim:=lim) (lb:=0) (b:=b) (k:=k) (f6:=f6) (f7:=f7) (f8:=f8) (loc:=[some (.at (.cst (.ref a)))])
    rw [e1] at this
    exact ret_of (B_ret ((S_true t).trans ((B_next this).trans ret_true))) rfl
theorem R1_spec {c p:Int}:cl (n+1) 18 [.at .me] (mkF l c lim lb b k (aI p) f7 f8) = some (ab (decide (p ≤ c)),mkF l c lim lb b k (aI p) f7 f8):=by
  rw [cl_at (F:=⟨1,_,c_r_R1⟩) rfl rfl]
  exact ret_of (B_ret (S_ret (E_cmp (E_fld rfl rfl) F_c rfl) rfl)) rfl
theorem R2_spec {c p:Int}:cl (n+1) 19 [.at .me] (mkF l c lim lb b k f6 (aI p) f8) = some (ab (decide (p ≤ c)),mkF l c lim lb b k f6 (aI p) f8):=by
  rw [cl_at (F:=⟨1,_,c_r_R2⟩) rfl rfl]
  exact ret_of (B_ret (S_ret (E_cmp (E_fld rfl rfl) F_c rfl) rfl)) rfl
theorem get_spec {c:Int}:cl (n+1) 2 [.at .me] (mkF l c lim lb b k f6 f7 f8) = some (as (tx l),mkF l c lim lb b k f6 f7 f8):=by
  rw [cl_at (F:=⟨1,_,c_get_current⟩) rfl rfl]
  exact ret_of (B_ret (S_ret (F_t (loc:=[])) rfl)) rfl
theorem eq_b_spec {c:Nat} {y:List Nat} (hl:l.length < 1000) (hy:y.length < 1000) (hc:c ≤ l.length) :
    cl (n+1) 7 [.at .me,as (tx y)] (mkF l c lim 0 b k f6 f7 f8) =
    if y.isSuffixOf (l.take c) then some (ab true,mkF l ((c:Int) - (y.length:Int)) lim 0 b k f6 f7 f8) else some (ab false,mkF l c lim 0 b k f6 f7 f8):=by
  have ht:small (l.take c).length = true:=sm (Nat.lt_of_le_of_lt (by rw [List.length_take];exact Nat.min_le_right ..) hl)
  rw [cl_at (F:=⟨2,_,c_eq_s_b⟩) rfl rfl]
  have e:=slice_tx (l:=l) (lo:=0) (hi:=c) (sm hl) (by decide) (Nat.lt_of_le_of_lt hc hl)
  rw [List.drop_zero] at e
  have t:=T_of (T:=tabs) (Γ:=cl n) (E_ends (E_slice (lo:=0) (F_t (loc:=[some (as (tx y))]) (c:=c) (lim:=lim) (lb:=0) (b:=b) (k:=k) (f6:=f6) (f7:=f7) (f8:=f8)) (E_fld (i:=3) rfl rfl) F_c e) (E_var (i:=1) rfl) (ends_tx ht (sm hy)))
  cases hq:y.isSuffixOf (l.take c) with
  | true=>
    rw [hq] at t
    exact ret_of (B_ret ((S_true t).trans ((B_next (S_augf rfl rfl (E_len (E_var rfl) (len_tx (sm hy))) rfl rfl)).trans ret_true))) rfl
  | false=>rw [hq] at t;exact ret_of ((B_skip t).trans ret_false) rfl
noncomputable def moved (c b k:Nat) (d:Int):Int:=if k ≤ c then (c:Int)+d else if b < c then b else c
theorem replace_spec {c lim b k:Nat} {B K:Int} {y:List Nat} (hl:l.length+y.length < 1000) (hb:b ≤ k) (hk:k ≤ l.length) :
    cl (n+1) 10 [.at .me,ai b,ai k,as (tx y)] (mkF l c lim lb B K f6 f7 f8) =
    some (ai ((y.length:Int) - ((k:Int) - b)),mkF (l.take b ++ y ++ l.drop k) (moved c b k ((y.length:Int) - ((k:Int) - b))) ((lim:Int)+((y.length:Int) - ((k:Int) - b))) lb B K f6 f7 f8):=by
  have hl':l.length < 1000:=Nat.lt_of_le_of_lt (Nat.le_add_right ..) hl
  have hy:small y.length = true:=sm (Nat.lt_of_le_of_lt (Nat.le_add_left ..) hl)
  have e1:=slice_tx (l:=l) (lo:=0) (hi:=b) (sm hl') (by decide) (by omega)
  rw [List.drop_zero] at e1
  have e2:=from_tx (l:=l) (lo:=k) (sm hl') (Nat.lt_of_le_of_lt hk hl')
  have s1:small ((l.take b).length+y.length) = true:=decide_eq_true (by rw [List.length_take];omega)
  have s2:small ((l.take b ++ y).length+(l.drop k).length) = true:=decide_eq_true (by rw [List.length_append,List.length_take,List.length_drop];omega)
  rw [cl_at (F:=⟨4,_,c_replace_s⟩) rfl rfl]
  obtain ⟨d,hd⟩:∃ d:Int,d = (y.length:Int) - ((k:Int) - b):=⟨_,rfl⟩
  rw [←hd]
  have q1:evB tabs (cl n) 1000 c_replace_s ⟨[some (.at .me),vI b,vI k,some (as (tx y)),none],mkF l c lim lb B K f6 f7 f8⟩ = _:=(B_next (S_assign (E_bin (v:=ai d) (E_len (E_var rfl) (len_tx hy)) (E_bin (E_var rfl) (E_var rfl) rfl) (hd▸rfl)) rfl rfl)).trans
    ((B_next (S_setf rfl (E_bin (E_bin (E_slice (F_t (loc:=[_,_,_,_])) E_int (E_var rfl) e1) (E_var rfl) (add_tx s1)) (E_sliceFrom F_t (E_var rfl) e2) (add_tx s2)) rfl)).trans
    (B_next (S_augf rfl rfl (E_var rfl) rfl rfl)))
  refine (congrArg retOf q1).trans ?_
  clear q1
  have t1:evT tabs (cl n) (.cmp .ge (.fld 1) (.var 2)) ⟨[some (.at .me),vI b,vI k,some (as (tx y)),vI d],mkF (l.take b ++ y ++ l.drop k) c ((lim:Int)+d) lb B K f6 f7 f8⟩ = some (decide (k ≤ c),mkF (l.take b ++ y ++ l.drop k) c ((lim:Int)+d) lb B K f6 f7 f8):=
    T_cmp (F_c (loc:=[_,_,_,_])) (E_var rfl) (congrArg some (decide_eq_decide.mpr Int.ofNat_le))
  have t2:evT tabs (cl n) (.cmp .gt (.fld 1) (.var 1)) ⟨[some (.at .me),vI b,vI k,some (as (tx y)),vI d],mkF (l.take b ++ y ++ l.drop k) c ((lim:Int)+d) lb B K f6 f7 f8⟩ = some (decide (b < c),mkF (l.take b ++ y ++ l.drop k) c ((lim:Int)+d) lb B K f6 f7 f8):=
    T_cmp (F_c (loc:=[_,_,_,_])) (E_var rfl) (congrArg some (decide_eq_decide.mpr Int.ofNat_lt))
  unfold moved
  by_cases h1:k ≤ c
  · rw [decide_eq_true h1] at t1
    rw [if_pos h1]
    exact ret_of ((B_next ((S_true t1).trans (B_one.trans (S_augf rfl rfl (E_var rfl) rfl rfl)))).trans (B_ret (S_ret (E_var rfl) rfl))) rfl
  · rw [decide_eq_false h1] at t1
    rw [if_neg h1]
    by_cases h2:b < c
    · rw [decide_eq_true h2] at t2
      rw [if_pos h2]
      exact ret_of ((B_next ((S_false t1).trans (B_one.trans ((S_true t2).trans (B_one.trans (F_curv rfl)))))).trans (B_ret (S_ret (E_var rfl) rfl))) rfl
    · rw [decide_eq_false h2] at t2
      rw [if_neg h2]
      exact ret_of ((B_next ((S_false t1).trans (B_one.trans ((S_false t2).trans B_nil)))).trans (B_ret (S_ret (E_var rfl) rfl))) rfl
theorem slice_from_spec {c b k:Nat} {y:List Nat} (hl:l.length+y.length < 1000) (hb:b ≤ k) (hk:k ≤ l.length) :
    cl (n+2) 11 [.at .me,as (tx y)] (mkF l c l.length lb b k f6 f7 f8) =
    some (.at (.cst .none),mkF (l.take b ++ y ++ l.drop k) (moved c b k ((y.length:Int) - ((k:Int) - b))) ((l.length:Int)+((y.length:Int) - ((k:Int) - b))) lb b ((b:Int)+y.length) f6 f7 f8):=by
  have hl':l.length < 1000:=Nat.lt_of_le_of_lt (Nat.le_add_right ..) hl
  have hy:small y.length = true:=sm (Nat.lt_of_le_of_lt (Nat.le_add_left ..) hl)
  have e:=replace_spec (n:=n) (l:=l) (lb:=lb) (f6:=f6) (f7:=f7) (f8:=f8) (c:=c) (lim:=l.length) (b:=b) (k:=k) (B:=b) (K:=k) (y:=y) hl hb hk
  rw [cl_at (F:=⟨2,_,c_slice_from⟩) rfl rfl]
  have c1:decide ((b:Int) ≥ 0) = true:=decide_eq_true (Int.natCast_nonneg b)
  have c2:decide ((b:Int) ≤ k) = true:=decide_eq_true (Int.ofNat_le.mpr hb)
  have c3:decide ((k:Int) ≤ l.length) = true:=decide_eq_true (Int.ofNat_le.mpr hk)
  have c4:decide ((l.length:Int) ≤ l.length) = true:=decide_eq_true (Int.le_refl _)
  have hc:evE tabs (cl (n+1)) (.callM 0 10 (.cons (.fld 4) (.cons (.fld 5) (.cons (.var 1) .nil)))) ⟨[some (.at .me),some (as (tx y))],mkF l c l.length lb b k f6 f7 f8⟩ = _:=E_callM rfl (A3 (E_fld rfl rfl) (E_fld rfl rfl) (E_var rfl)) rfl rfl e
  exact ret_of ((B_next (S_assert (T_cmp (E_fld rfl rfl) E_int (show cmpV .ge (ai b) (ai 0) = some true from congrArg some c1)))).trans ((B_next (S_assert (T_cmp (E_fld rfl rfl) (E_fld rfl rfl) (show cmpV .le (ai b) (ai k) = some true from congrArg some c2)))).trans
    ((B_next (S_assert (T_cmp (E_fld rfl rfl) (E_fld rfl rfl) (show cmpV .le (ai k) (ai l.length) = some true from congrArg some c3)))).trans ((B_next (S_assert (T_cmp (E_fld rfl rfl) (E_len (F_t (loc:=[_])) (len_tx (sm hl'))) (show cmpV .le (ai l.length) (ai l.length) = some true from congrArg some c4)))).trans
    ((B_next (S_expr hc)).trans ((B_next (S_setf rfl (E_bin (E_fld rfl rfl) (E_len (E_var rfl) (len_tx hy)) rfl) rfl)).trans B_nil)))))) rfl
theorem slice_del_spec {c b k:Nat} (hl:l.length < 1000) (hb:b ≤ k) (hk:k ≤ l.length) :
    cl (n+3) 12 [.at .me] (mkF l c l.length lb b k f6 f7 f8) =
    some (.at (.cst .none),mkF (l.take b ++ l.drop k) (moved c b k (0 - ((k:Int) - b))) ((l.length:Int)+(0 - ((k:Int) - b))) lb b b f6 f7 f8):=by
  have e:=slice_from_spec (n:=n) (l:=l) (lb:=lb) (f6:=f6) (f7:=f7) (f8:=f8) (c:=c) (b:=b) (k:=k) (y:=[]) hl hb hk
  rw [List.append_nil] at e
  rw [cl_at (F:=⟨1,_,c_slice_del⟩) rfl rfl]
  have hc:evE tabs (cl (n+2)) (.callM 0 11 (.cons (.str ⟨#[]⟩) .nil)) ⟨[some (.at .me)],mkF l c l.length lb b k f6 f7 f8⟩ = _:=E_callM rfl A_str rfl rfl e
  refine (congrArg retOf (B_ret (S_ret hc rfl))).trans ?_
  have:(b:Int)+(([]:List Nat).length:Int) = b:=Int.add_zero _
  rw [this];rfl
end Mine
namespace Mine
noncomputable def cmpKey:List Nat→List Nat→Nat→Int × Nat
  | _,[],m=>(0,m)
  | [],_ :: _,m=>(-1,m)
  | x :: r,y :: k,m=>if (x:Int) - y ≠ 0 then ((x:Int) - y,m) else cmpKey r k (m+1)
structure FRow where
  key:List Nat
  sub:Int
  res:Int
  deriving Inhabited
noncomputable def faLoop (rows:List FRow) (rest:List Nat):Nat→Nat→Nat→Nat→Nat→Bool→Option (Nat × Nat)
  | 0,_,_,_,_,_=>none
  | n+1,i,j,ci,cj,fk=>
    let k:=i+(j - i) / 2
    let m:=min ci cj
    let d:=cmpKey (rest.drop m) (((rows.getD k default).key).drop m) m
    let i':=if d.1 < 0 then i else k
    let j':=if d.1 < 0 then k else j
    let ci':=if d.1 < 0 then ci else d.2
    let cj':=if d.1 < 0 then d.2 else cj
    if j' - i' ≤ 1 then (if 0 < i' then some (i',ci') else if j' = i' then some (i',ci') else if fk then some (i',ci') else faLoop rows rest n i' j' ci' cj' true)
    else faLoop rows rest n i' j' ci' cj' fk
noncomputable def faPick (rows:List FRow) (ci:Nat):Nat→Nat→Option (Nat × Int)
  | 0,_=>none
  | n+1,i=>
    let w:=rows.getD i default
    if w.key.length ≤ ci then some (w.key.length,w.res) else if w.sub < 0 then some (0,0) else faPick rows ci n w.sub.toNat
noncomputable def fa (rows:List FRow) (rest:List Nat):Option (Nat × Int):=(faLoop rows rest 20 0 rows.length 0 0 false).bind fun p=>faPick rows p.2 20 p.1
structure TabOf (A:Addr) (enc:List Nat→List Nat) (rows:List FRow):Prop where
  len:lenV (.at (.cst (.ref A))) = some (ai rows.length)
  row:∀ k,k < rows.length→∃ wa,idxV (.at (.cst (.ref A))) (.at (.int (k:Nat))) = some (.at (.cst (.ref wa))) ∧
    tabs.amo wa (.ofString "s") = some (.str (tx (enc (rows.getD k default).key)))∧tabs.amo wa (.ofString "substring_i") = some (.int (rows.getD k default).sub)∧tabs.amo wa (.ofString "result") = some (.int (rows.getD k default).res)
  sub:∀ k,k < rows.length→(rows.getD k default).sub < rows.length
  short:∀ k,(rows.getD k default).key.length < 1000
  enc:∀ l,(enc l).length = l.length
structure Jk where
  a:Option AV
  b:Option AV
  c:Option AV
  d:Option AV
  e:Option AV
  oa:okv a = true
  ob:okv b = true
  oc:okv c = true
  od:okv d = true
  oe:okv e = true
noncomputable def faJ (A:Addr) (i j c lim ci cj:Int) (fk:Bool) (J:Jk):List (Option AV):=
  [some (.at .me),some (.at (.cst (.ref A))),vI i,vI j,vI c,vI lim,vI ci,vI cj,some (.at (.cst (.bool fk))),J.a,J.b,J.c,J.d,J.e]
noncomputable def jk (kk d m:Int) (wa:Addr) (x:Option AV) (h:okv x = true):Jk:=⟨vI kk,vI d,vI m,some (.at (.cst (.ref wa))),x,rfl,rfl,rfl,rfl,h⟩
theorem okSet_of {i:Nat} {σ:AS} {x:Option AV} (h:σ.loc[i]? = some x) (ho:okv x = true):okSet i σ = true:=by
  rw [okSet_eq,h];exact ho
noncomputable def ForOk (fs:CS) (n:Nat) (A:Addr) (enc:List Nat→List Nat) (rest:List Nat) (f:FL) (c lim:Int):Prop:=
  ∀ (i j ci cj kk:Int) (fk:Bool) (wa:Addr) (key:List Nat) (m:Nat) (x:Option AV) (h:okv x = true),key.length < 1000→tabs.amo wa (.ofString "s") = some (.str (tx (enc key)))→m ≤ rest.length→
    ∃ x',∃ h':okv x' = true,evS tabs (cl n) 1000 fs ⟨faJ A i j c lim ci cj fk (jk kk 0 m wa x h),f⟩ =
      some (⟨faJ A i j c lim ci cj fk (jk kk (cmpKey (rest.drop m) (key.drop m) m).1 (cmpKey (rest.drop m) (key.drop m) m).2 wa x' h'),f⟩,.next)
noncomputable abbrev faT:CB:=(.cons (.ite (.cmp .le (.bin .sub (.var 3) (.var 2)) (.int 1)) (.cons (.ite (.cmp .gt (.var 2) (.int 0)) (.cons .brk .nil) .nil) (.cons (.ite (.cmp .eq (.var 3) (.var 2)) (.cons .brk .nil) .nil) (.cons (.ite (.var 8) (.cons .brk .nil) .nil) (.cons (.assign 8 (.bool true)) .nil)))) .nil) .nil)
noncomputable abbrev faW (fs:CS):CB:=(.cons (.assign 9 (.bin .add (.var 2) (.bin .shr (.bin .sub (.var 3) (.var 2)) (.int 1)))) (.cons (.assign 10 (.int 0)) (.cons (.assign 11 (.min (.var 6) (.var 7))) (.cons (.assign 12 (.idx (.var 1) (.var 9))) (.cons fs (.cons (.ite (.cmp .lt (.var 10) (.int 0)) (.cons (.assign 3 (.var 9)) (.cons (.assign 7 (.var 11)) .nil)) (.cons (.assign 2 (.var 9)) (.cons (.assign 6 (.var 11)) .nil))) faT))))))
theorem cmpKey_le (x:List Nat):∀ (y:List Nat) (m:Nat),(cmpKey x y m).2 ≤ m+x.length:=by
  induction x with
  | nil=>intro y m;cases y<;>exact Nat.le_refl _
  | cons a x ih=>
    intro y m
    cases y with
    | nil=>exact Nat.le_add_right ..
    | cons b y=>
      unfold cmpKey
      split
      · exact Nat.le_add_right ..
      · exact Nat.le_trans (ih y (m+1)) (Nat.le_of_eq (Nat.succ_add_eq_add_succ ..))
theorem half (i j:Nat) (h:i ≤ j):(i:Int)+((j:Int) - (i:Int)).fdiv 2 = ((i+(j - i) / 2:Nat):Int):=by
  rw [←Int.ofNat_sub h,Int.fdiv_eq_ediv_of_nonneg _ (by decide)];rfl
theorem min_int (a b:Nat):(if (b:Int) < (a:Int) then (b:Int) else (a:Int)) = ((min a b:Nat):Int):=by
  rw [Nat.min_def]
  by_cases h:b < a
  · rw [if_pos (Int.ofNat_lt.mpr h),if_neg (Nat.not_le.mpr h)]
  · rw [if_neg (fun e=>h (Int.ofNat_lt.mp e)),if_pos (Nat.le_of_not_lt h)]
theorem ai_eq {a b:Int} (h:a = b):some (ai a) = some (ai b):=congrArg (fun z=>some (ai z)) h
variable {n:Nat} {A:Addr} {enc:List Nat→List Nat} {rows:List FRow} {rest:List Nat} {f:FL} {c lim:Int} {fs:CS}
theorem fa_turn (hT:TabOf A enc rows) (hF:ForOk fs n A enc rest f c lim) {i j ci cj:Nat} {fk:Bool} {J:Jk} (h2:i ≤ j) {k m:Nat} {d:Int × Nat} (hk:k = i+(j - i) / 2) (hkl:k < rows.length) (hm:m = min ci cj) (hml:m ≤ rest.length) (hd:d = cmpKey (rest.drop m) (((rows.getD k default).key).drop m) m) :
    ∃ J',evB tabs (cl n) 1000 (faW fs) ⟨faJ A i j c lim ci cj fk J,f⟩ =
      evB tabs (cl n) 1000 faT ⟨faJ A ((if d.1 < 0 then i else k:Nat):Int) ((if d.1 < 0 then k else j:Nat):Int) c lim ((if d.1 < 0 then ci else d.2:Nat):Int) ((if d.1 < 0 then d.2 else cj:Nat):Int) fk J',f⟩:=by
  obtain ⟨wa,w1,w2,_,_⟩:=hT.row k hkl
  obtain ⟨x',o',e⟩:=hF i j ci cj k fk wa _ m J.e J.oe (hT.short k) w2 hml
  rw [←hd] at e
  refine ⟨jk k d.1 d.2 wa x' o',?_⟩
  refine ((B_next (S_assign (E_bin (E_var rfl) (E_bin (E_bin (E_var rfl) (E_var rfl) rfl) E_int rfl) (show binV .add (ai i) (ai (((j:Int) - i).fdiv 2)) = some (ai k) from ai_eq ((half i j h2).trans (congrArg Int.ofNat hk.symm)))) rfl (okSet_of rfl J.oa))).trans
    ((B_next (S_assign E_int rfl (okSet_of rfl J.ob))).trans ((B_next (S_assign ((E_min (E_var rfl) (E_var rfl)).trans (congrArg (fun z=>some (ai z,f)) ((min_int ci cj).trans (congrArg Int.ofNat hm.symm)))) rfl (okSet_of rfl J.oc))).trans
    ((B_next (S_assign (E_idx (E_var rfl) (E_var rfl) w1) rfl (okSet_of rfl J.od))).trans (B_next e))))).trans ?_
  have t:evT tabs (cl n) (.cmp .lt (.var 10) (.int 0)) ⟨faJ A i j c lim ci cj fk (jk k d.1 d.2 wa x' o'),f⟩ = some (decide (d.1 < 0),f):=T_cmp (E_var rfl) E_int rfl
  by_cases hneg:d.1 < 0
  · rw [decide_eq_true hneg] at t
    rw [if_pos hneg,if_pos hneg,if_pos hneg,if_pos hneg]
    exact B_next ((S_true t).trans ((B_next (S_assign (E_var rfl) rfl rfl)).trans ((B_next (S_assign (E_var rfl) rfl rfl)).trans B_nil)))
  · rw [decide_eq_false hneg] at t
    rw [if_neg hneg,if_neg hneg,if_neg hneg,if_neg hneg]
    exact B_next ((S_false t).trans ((B_next (S_assign (E_var rfl) rfl rfl)).trans ((B_next (S_assign (E_var rfl) rfl rfl)).trans B_nil)))
end Mine
namespace Mine
variable {n:Nat} {A:Addr} {enc:List Nat→List Nat} {rows:List FRow} {rest:List Nat} {f:FL} {c lim:Int} {fs:CS}
theorem sub_le1 {i j:Nat} (h:i ≤ j) {b:Bool} (e:decide (j - i ≤ 1) = b):cmpV .le (ai ((j:Int) - i)) (ai 1) = some b:=by
  show some (decide ((j:Int) - i ≤ 1)) = _
  rw [←e,←Int.ofNat_sub h];exact congrArg some (decide_eq_decide.mpr (Int.ofNat_le (n:=1)))
theorem gt_zero {i:Nat} {b:Bool} (e:decide (0 < i) = b):cmpV .gt (ai (i:Int)) (ai 0) = some b:=by
  show some (decide ((i:Int) > 0)) = _
  rw [←e];exact congrArg some (decide_eq_decide.mpr (Int.ofNat_lt (n:=0)))
theorem nat_beq {i j:Nat} {b:Bool} (e:decide (j = i) = b):cmpV .eq (ai (j:Int)) (ai (i:Int)) = some b:=by
  show some ((j:Int) == i) = _
  rw [←e];exact congrArg some (Bool.eq_iff_iff.mpr ((beq_iff_eq).trans (Int.ofNat_inj.trans decide_eq_true_iff.symm)))
theorem faT_is {i j ci cj:Nat} {fk:Bool} {J:Jk} (h:i ≤ j):evB tabs (cl n) 1000 faT ⟨faJ A i j c lim ci cj fk J,f⟩ =
    if j - i ≤ 1 then (if 0 < i then some (⟨faJ A i j c lim ci cj fk J,f⟩,.brk) else if j = i then some (⟨faJ A i j c lim ci cj fk J,f⟩,.brk) else if fk then some (⟨faJ A i j c lim ci cj fk J,f⟩,.brk) else some (⟨faJ A i j c lim ci cj true J,f⟩,.next)) else some (⟨faJ A i j c lim ci cj fk J,f⟩,.next):=by
  refine B_one.trans ?_
  by_cases g1:j - i ≤ 1
  · rw [if_pos g1]
    refine (S_true (T_cmp (E_bin (E_var rfl) (E_var rfl) rfl) E_int (sub_le1 h (decide_eq_true g1)))).trans ?_
    by_cases g2:0 < i
    · rw [if_pos g2];exact B_brk (S_true (T_cmp (E_var rfl) E_int (gt_zero (decide_eq_true g2))))
    · rw [if_neg g2]
      refine (B_skip (T_cmp (E_var rfl) E_int (gt_zero (decide_eq_false g2)))).trans ?_
      by_cases g3:j = i
      · rw [if_pos g3];exact B_brk (S_true (T_cmp (E_var rfl) (E_var rfl) (nat_beq (decide_eq_true g3))))
      · rw [if_neg g3]
        refine (B_skip (T_cmp (E_var rfl) (E_var rfl) (nat_beq (decide_eq_false g3)))).trans ?_
        cases fk with
        | true=>exact B_brk (S_true (T_of (E_var rfl)))
        | false=>exact (B_skip (T_of (E_var rfl))).trans (B_one.trans (S_assign rfl rfl rfl))
  · rw [if_neg g1];exact S_false (T_cmp (E_bin (E_var rfl) (E_var rfl) rfl) E_int (sub_le1 h (decide_eq_false g1)))
structure Bd (rows:List FRow) (rest:List Nat) (i j ci cj:Nat):Prop where
  lt:i < rows.length
  le:i ≤ j
  lj:j ≤ rows.length
  ci:ci ≤ rest.length
  cj:cj ≤ rest.length
theorem Bd.mid {i j ci cj:Nat} (B:Bd rows rest i j ci cj):i ≤ i+(j - i) / 2∧i+(j - i) / 2 ≤ j∧i+(j - i) / 2 < rows.length:=by
  obtain ⟨a,b,c,_,_⟩:=B
  have m2:i+(j - i) / 2 ≤ j:=Nat.le_trans (Nat.add_le_add_left (Nat.div_le_self ..) _) (Nat.le_of_eq (Nat.add_sub_of_le b))
  refine ⟨Nat.le_add_right ..,m2,?_⟩
  rcases Nat.eq_or_lt_of_le b with rfl | h
  · rw [Nat.sub_self];exact a
  · exact Nat.lt_of_lt_of_le (Nat.lt_of_lt_of_le (Nat.add_lt_add_left (Nat.div_lt_self (Nat.sub_pos_of_lt h) (by decide)) i) (Nat.le_of_eq (Nat.add_sub_of_le b))) c
theorem Bd.next {i j ci cj:Nat} (B:Bd rows rest i j ci cj) {k:Nat} {d:Int × Nat} (hk:k = i+(j - i) / 2) (hd:d.2 ≤ rest.length):Bd rows rest (if d.1 < 0 then i else k) (if d.1 < 0 then k else j) (if d.1 < 0 then ci else d.2) (if d.1 < 0 then d.2 else cj):=by
  obtain ⟨m1,m2,m3⟩:=B.mid
  rw [←hk] at m1 m2 m3
  by_cases h:d.1 < 0
  · rw [if_pos h,if_pos h,if_pos h,if_pos h];exact ⟨B.lt,m1,Nat.le_of_lt m3,B.ci,hd⟩
  · rw [if_neg h,if_neg h,if_neg h,if_neg h];exact ⟨m3,m2,B.lj,hd,B.cj⟩
theorem ite3_el {α:Type} {a b d:Prop} [Decidable a] [Decidable b] [Decidable d] {x y r:Option α} {P:Prop} (h:(if a then x else if b then x else if d then x else y) = r) (q1:(∀ {β:Type} {u v:β},(if a then u else if b then u else if d then u else v) = u)→x = r→P) (q2:(∀ {β:Type} {u v:β},(if a then u else if b then u else if d then u else v) = v)→y = r→P):P:=by
  by_cases ha:a
  · exact q1 (if_pos ha) ((if_pos ha).symm.trans h)
  · by_cases hb:b
    · exact q1 ((if_neg ha).trans (if_pos hb)) (((if_neg ha).trans (if_pos hb)).symm.trans h)
    · by_cases hd:d
      · exact q1 ((if_neg ha).trans ((if_neg hb).trans (if_pos hd))) (((if_neg ha).trans ((if_neg hb).trans (if_pos hd))).symm.trans h)
      · exact q2 ((if_neg ha).trans ((if_neg hb).trans (if_neg hd))) (((if_neg ha).trans ((if_neg hb).trans (if_neg hd))).symm.trans h)
theorem fa_loop (hT:TabOf A enc rows) (hF:ForOk fs n A enc rest f c lim) (fuel:Nat):∀ {i j ci cj:Nat} {fk:Bool} {J:Jk} {p:Nat × Nat} (N:Nat),Bd rows rest i j ci cj→fuel ≤ N→faLoop rows rest fuel i j ci cj fk = some p→
    ∃ (j' cj':Nat) (fk':Bool) (J':Jk),p.1 < rows.length∧whileN (evT tabs (cl n) (.bool true)) (fun σ=>evB tabs (cl n) 1000 (faW fs) σ) N ⟨faJ A i j c lim ci cj fk J,f⟩ = some (⟨faJ A p.1 j' c lim p.2 cj' fk' J',f⟩,.next):=by
  induction fuel with
  | zero=>intro i j ci cj fk J p N B hN h;cases h
  | succ fuel ih=>
    intro i j ci cj fk J p N B hN h
    obtain ⟨N,rfl⟩:=Nat.exists_eq_add_of_le hN
    rw [Nat.succ_add]
    obtain ⟨k,hk⟩:∃ k,k = i+(j - i) / 2:=⟨_,rfl⟩
    obtain ⟨m,hm⟩:∃ m,m = min ci cj:=⟨_,rfl⟩
    obtain ⟨d,hd⟩:∃ d,d = cmpKey (rest.drop m) (((rows.getD k default).key).drop m) m:=⟨_,rfl⟩
    have hml:m ≤ rest.length:=hm▸Nat.le_trans (Nat.min_le_left ..) B.ci
    have hdl:d.2 ≤ rest.length:=by
      have:=cmpKey_le (rest.drop m) (((rows.getD k default).key).drop m) m
      rw [←hd,List.length_drop,Nat.add_sub_of_le hml] at this
      exact this
    obtain ⟨J',e⟩:=fa_turn (lim:=lim) (fk:=fk) (J:=J) hT hF B.le hk (hk▸B.mid.2.2) hm hml hd
    have B':=B.next hk hdl
    rw [faLoop] at h
    rw [←hk,←hm,←hd] at h
    revert e h B'
    generalize (if d.1 < 0 then i else k) = i'
    generalize (if d.1 < 0 then k else j) = j'
    generalize (if d.1 < 0 then ci else d.2) = ci'
    generalize (if d.1 < 0 then d.2 else cj) = cj'
    intro h e B'
    replace e:=e.trans (faT_is B'.le)
    by_cases g1:j' - i' ≤ 1
    · rw [if_pos g1] at h e
      refine ite3_el h (fun x h=>?_) fun x h=>?_
      · cases h
        exact ⟨j',cj',fk,J',B'.lt,while_brk (t_true _) (e.trans x)⟩
      · obtain ⟨j2,cj2,fk2,J2,hp,e2⟩:=ih (J:=J') (fuel+N) B' (Nat.le_add_right ..) h
        exact ⟨j2,cj2,fk2,J2,hp,(while_next (t_true _) (e.trans x)).trans e2⟩
    · rw [if_neg g1] at h e
      obtain ⟨j2,cj2,fk2,J2,hp,e2⟩:=ih (J:=J') (fuel+N) B' (Nat.le_add_right ..) h
      exact ⟨j2,cj2,fk2,J2,hp,(while_next (t_true _) e).trans e2⟩
noncomputable abbrev faP (o:Bop):CB:=(.cons (.assign 12 (.idx (.var 1) (.var 2))) (.cons (.ite (.cmp .ge (.var 6) (.len (.amo (.var 12) (.ofString "s")))) (.cons (.setf 1 (.bin o (.var 4) (.len (.amo (.var 12) (.ofString "s"))))) (.cons (.ret (.amo (.var 12) (.ofString "result"))) .nil)) .nil) (.cons (.assign 2 (.amo (.var 12) (.ofString "substring_i"))) (.cons (.ite (.cmp .lt (.var 2) (.int 0)) (.cons (.ret (.int 0)) .nil) .nil) .nil))))
theorem ge_len {a b:Nat} {v:Bool} (e:decide (b ≤ a) = v):cmpV .ge (ai (a:Int)) (ai (b:Int)) = some v:=by
  show some (decide ((a:Int) ≥ b)) = _
  rw [←e];exact congrArg some (decide_eq_decide.mpr Int.ofNat_le)
noncomputable def Jk.withD (J:Jk) (wa:Addr):Jk:=⟨J.a,J.b,J.c,some (.at (.cst (.ref wa))),J.e,J.oa,J.ob,J.oc,rfl,J.oe⟩
theorem set_same {α:Type} {l:List α} {i:Nat} {a:α} (h:l[i]? = some a):l.set i a = l:=List.ext_getElem? fun z=>by
  by_cases hz:i = z
  · subst hz;rw [List.getElem?_set_self (List.getElem?_eq_some_iff.mp h).1,h]
  · rw [List.getElem?_set_ne hz]
theorem fa_pick (hT:TabOf A enc rows) {o:Bop} {g:Nat→Int} (hg:∀ k:Nat,binV o (ai c) (ai k) = some (ai (g k))) (hf:f[1]? = some (aI c)) (hg0:g 0 = c) {ci:Nat} (fuel:Nat):∀ {i:Nat} {j cj:Int} {fk:Bool} {J:Jk} {p:Nat × Int} (N:Nat),i < rows.length→
    fuel ≤ N→faPick rows ci fuel i = some p→
    ∃ σ':AS,σ'.fl = f.set 1 (aI (g p.1))∧whileN (evT tabs (cl n) (.bool true)) (fun σ=>evB tabs (cl n) 1000 (faP o) σ) N ⟨faJ A i j c lim ci cj fk J,f⟩ = some (σ',.ret (ai p.2)):=by
  induction fuel with
  | zero=>intro i j cj fk J p N hi hN h;cases h
  | succ fuel ih=>
    intro i j cj fk J p N hi hN h
    obtain ⟨N,rfl⟩:=Nat.exists_eq_add_of_le hN
    rw [Nat.succ_add]
    obtain ⟨wa,w1,w2,w3,w4⟩:=hT.row i hi
    have hlen:((tx (enc (rows.getD i default).key)).length:Int) = (rows.getD i default).key.length:=congrArg Int.ofNat (hT.enc _)
    have hl:lenV (.at (.str (tx (enc (rows.getD i default).key)))) = some (ai (rows.getD i default).key.length):=by
      rw [←hlen];exact len_tx (by rw [hT.enc];exact sm (hT.short i))
    have hs:=hT.sub i hi
    rw [faPick] at h
    revert h w2 w3 w4 hl hs
    generalize rows.getD i default = w
    intro h w2 w3 w4 hl hs
    have e0:evS tabs (cl n) 1000 (.assign 12 (.idx (.var 1) (.var 2))) ⟨faJ A i j c lim ci cj fk J,f⟩ = some (⟨faJ A i j c lim ci cj fk (J.withD wa),f⟩,.next):=S_assign (E_idx (E_var rfl) (E_var rfl) w1) rfl (okSet_of rfl J.od)
    have el:evE tabs (cl n) (.len (.amo (.var 12) (.ofString "s"))) ⟨faJ A i j c lim ci cj fk (J.withD wa),f⟩ = some (ai w.key.length,f):=E_len (E_amo (E_var rfl) w2) hl
    by_cases g1:w.key.length ≤ ci
    · rw [if_pos g1] at h
      cases Option.some.inj h
      exact ⟨⟨faJ A i j c lim ci cj fk (J.withD wa),f.set 1 (aI (g w.key.length))⟩,rfl,while_ret (t_true _) ((B_next e0).trans (B_ret ((S_true (T_cmp (E_var rfl) el (ge_len (decide_eq_true g1)))).trans ((B_next (S_setf rfl (E_bin (E_var rfl) el (hg w.key.length)) rfl)).trans (B_ret (S_ret (E_amo (E_var rfl) w4) rfl))))))⟩
    · rw [if_neg g1] at h
      have e1:=(B_next (r:=.cons (.assign 2 (.amo (.var 12) (.ofString "substring_i"))) (.cons (.ite (.cmp .lt (.var 2) (.int 0)) (.cons (.ret (.int 0)) .nil) .nil) .nil)) e0)
      have t:evB tabs (cl n) 1000 (faP o) ⟨faJ A i j c lim ci cj fk J,f⟩ = evB tabs (cl n) 1000 (.cons (.ite (.cmp .lt (.var 2) (.int 0)) (.cons (.ret (.int 0)) .nil) .nil) .nil) ⟨faJ A w.sub j c lim ci cj fk (J.withD wa),f⟩:=
        (B_next e0).trans ((B_skip (T_cmp (E_var rfl) el (ge_len (decide_eq_false g1)))).trans (B_next (S_assign (E_amo (E_var rfl) w3) rfl rfl)))
      have t2:evT tabs (cl n) (.cmp .lt (.var 2) (.int 0)) ⟨faJ A w.sub j c lim ci cj fk (J.withD wa),f⟩ = some (decide (w.sub < 0),f):=T_cmp (E_var rfl) E_int rfl
      by_cases g2:w.sub < 0
      · rw [if_pos g2] at h
        rw [decide_eq_true g2] at t2
        cases Option.some.inj h
        exact ⟨⟨faJ A w.sub j c lim ci cj fk (J.withD wa),f⟩,by rw [hg0,set_same hf],while_ret (t_true _) (t.trans (B_ret ((S_true t2).trans (B_ret (S_ret E_int rfl)))))⟩
      · rw [if_neg g2] at h
        rw [decide_eq_false g2] at t2
        have hu:w.sub = w.sub.toNat:=(Int.toNat_of_nonneg (Int.not_lt.mp g2)).symm
        obtain ⟨σ',a1,a2⟩:=ih (j:=j) (cj:=cj) (fk:=fk) (J:=J.withD wa) (fuel+N) (by rw [hu] at hs;exact Int.ofNat_lt.mp hs) (Nat.le_add_right ..) h
        rw [←hu] at a2
        exact ⟨σ',a1,(while_next (t_true _) (t.trans ((B_skip t2).trans B_nil))).trans a2⟩
end Mine
namespace Mine
noncomputable abbrev faBody (t ix:CE):CB:=(.cons (.ite t (.cons (.assign 10 (.neg 1)) (.cons .brk .nil)) .nil) (.cons (.assign 10 (.bin .sub (.ord ix) (.ord (.idx (.amo (.var 12) (.ofString "s")) (.var 13))))) (.cons (.ite (.cmp .ne (.var 10) (.int 0)) (.cons .brk .nil) .nil) (.cons (.aug 11 .add (.int 1)) .nil))))
variable {n:Nat} {A wa:Addr} {i j c lim ci cj kk:Int} {fk:Bool} {f:FL} {rest:List Nat}
noncomputable abbrev faσ (A wa:Addr) (i j c lim ci cj kk:Int) (fk:Bool) (f:FL) (d m:Int) (x:Option AV) (h:okv x = true):AS:=⟨faJ A i j c lim ci cj fk (jk kk d m wa x h),f⟩
structure Side (n:Nat) (t ix:CE) (A wa:Addr) (i j c lim ci cj kk:Int) (fk:Bool) (f:FL) (rest:List Nat):Prop where
  full:∀ (m:Nat) (z:Int),rest.length = m→evT tabs (cl n) t (faσ A wa i j c lim ci cj kk fk f 0 m (vI z) rfl) = some (true,f)
  more:∀ (m:Nat) (z:Int),m < rest.length→evT tabs (cl n) t (faσ A wa i j c lim ci cj kk fk f 0 m (vI z) rfl) = some (false,f)
  char:∀ (m:Nat) (z:Int) ch,rest[m]? = some ch→evE tabs (cl n) ix (faσ A wa i j c lim ci cj kk fk f 0 m (vI z) rfl) = some (as (chr1 ch),f)
theorem ne_zero {d:Int} {b:Bool} (h:(d != 0) = b):cmpV .ne (ai d) (ai 0) = some b:=congrArg some h
theorem fa_for {t ix:CE} {K:List Nat} (hw:tabs.amo wa (.ofString "s") = some (.str (tx K))) (hK:K.length < 1000) (S:Side n t ix A wa i j c lim ci cj kk fk f rest) (r:List Nat):∀ (zs:List Nat) (m:Nat) (x:Option AV) (h:okv x = true),r.map some = zs.map (K[·]?)→m ≤ rest.length→
    ∃ x',∃ h':okv x' = true,forN 13 (fun σ=>evB tabs (cl n) 1000 (faBody t ix) σ) (zs.map fun (z:Nat)=>Atom.int z) (faσ A wa i j c lim ci cj kk fk f 0 m x h) =
      some (faσ A wa i j c lim ci cj kk fk f (cmpKey (rest.drop m) r m).1 (cmpKey (rest.drop m) r m).2 x' h',.next):=by
  induction r with
  | nil=>
    intro zs m x h hz hm
    cases zs with
    | cons _ _=>cases hz
    | nil=>
      have e:cmpKey (rest.drop m) [] m = (0,m):=by cases rest.drop m<;>rfl
      rw [e];exact ⟨x,h,rfl⟩
  | cons y r ih=>
    intro zs m x h hz hm
    cases zs with
    | nil=>cases hz
    | cons z zs=>
      rw [List.map_cons,List.map_cons,List.cons.injEq] at hz
      have ho:okSet 13 (faσ A wa i j c lim ci cj kk fk f 0 m x h) = true:=okSet_of rfl h
      have hkey:evE tabs (cl n) (.idx (.amo (.var 12) (.ofString "s")) (.var 13)) (faσ A wa i j c lim ci cj kk fk f 0 m (vI z) rfl) = some (as (chr1 y),f):=E_idx (E_amo (E_var rfl) hw) (E_var rfl) (idx_tx (sm hK) hz.1.symm)
      rcases Nat.eq_or_lt_of_le hm with he | hlt
      · rw [he,List.drop_length]
        exact ⟨vI z,rfl,for_brk ho (B_brk ((S_true (S.full _ z rfl)).trans ((B_next (S_assign (e:=.neg 1) rfl rfl rfl)).trans (B_brk S_brk))))⟩
      · have hd:rest.drop m = rest[m] :: rest.drop (m+1):=List.drop_eq_getElem_cons hlt
        have hch:rest[m]? = some rest[m]:=List.getElem?_eq_getElem hlt
        rw [hd]
        revert hch hd
        generalize rest[m] = ch
        intro hd hch
        have e1:evB tabs (cl n) 1000 (faBody t ix) (faσ A wa i j c lim ci cj kk fk f 0 m (vI z) rfl) = evB tabs (cl n) 1000 (.cons (.ite (.cmp .ne (.var 10) (.int 0)) (.cons .brk .nil) .nil) (.cons (.aug 11 .add (.int 1)) .nil)) (faσ A wa i j c lim ci cj kk fk f ((ch:Int) - y) m (vI z) rfl):=
          (B_skip (S.more m z hlt)).trans (B_next (S_assign (E_bin (E_ord (S.char m z ch hch)) (E_ord hkey) rfl) rfl rfl))
        by_cases hxy:(ch:Int) - y ≠ 0
        · refine ⟨vI z,rfl,?_⟩
          rw [show cmpKey (ch :: rest.drop (m+1)) (y :: r) m = ((ch:Int) - y,m) from if_pos hxy]
          exact for_brk ho (e1.trans (B_brk ((S_true (T_cmp (E_var rfl) E_int (ne_zero (bne_iff_ne.mpr hxy)))).trans (B_brk S_brk))))
        · obtain ⟨x',h',h2⟩:=ih zs (m+1) (vI z) rfl hz.2 hlt
          rw [show cmpKey (ch :: rest.drop (m+1)) (y :: r) m = cmpKey (rest.drop (m+1)) r (m+1) from if_neg hxy]
          refine ⟨x',h',(for_next ho (e1.trans ?_)).trans h2⟩
          have h0:(ch:Int) - y = 0:=Decidable.not_not.mp hxy
          rw [h0]
          exact (B_skip (T_cmp (E_var rfl) E_int rfl)).trans (B_one.trans (S_aug rfl E_int rfl))
theorem range_map (m n:Nat) (g:Int→Atom):((List.range n).map fun (k:Nat)=>(m:Int)+(k:Int)).map g = (List.range' m n).map fun (z:Nat)=>g z:=by
  rw [List.range'_eq_map_range,List.map_map,List.map_map];rfl
theorem rg_small {z:Int} (h1:-1000 ≤ z) (h2:z ≤ 1000):rgOk z = true:=Bool.and_eq_true_iff.mpr ⟨decide_eq_true (Int.le_trans (by decide) h1),decide_eq_true (Int.le_trans h2 (by decide))⟩
theorem rg_nat {m:Nat} (h:m < 1000):rgOk (m:Int) = true:=rg_small (Int.le_trans (by decide) (Int.natCast_nonneg m)) (Int.ofNat_le.mpr (Nat.le_of_lt h))
theorem drop_get (key:List Nat) (k:Nat):∀ m,key.length - m = k→(key.drop m).map some = (List.range' m k).map (key[·]?):=by
  induction k with
  | zero=>intro m h;rw [List.drop_of_length_le (Nat.sub_eq_zero_iff_le.mp h)];rfl
  | succ k ih=>
    intro m h
    have hm:m < key.length:=Nat.lt_of_sub_pos (by rw [h];exact Nat.succ_pos _)
    rw [List.drop_eq_getElem_cons hm,List.range'_succ,List.map_cons,List.map_cons,List.getElem?_eq_getElem hm,ih (m+1) (by rw [Nat.sub_succ,h];rfl)]
variable {l:List Nat} {lb b k:Int} {f6 f7 f8:Option Atom}
noncomputable abbrev tF:CE:=.cmp .eq (.bin .add (.var 4) (.var 11)) (.var 5)
noncomputable abbrev ixF:CE:=.idx (.fld 0) (.bin .add (.var 4) (.var 11))
theorem side_fwd {c:Nat} (hs:l.length < 1000) (hc:c ≤ l.length):Side n tF ixF A wa i j c l.length ci cj kk fk (mkF l c l.length lb b k f6 f7 f8) (l.drop c) where
  full m z h:=T_cmp (E_bin (E_var rfl) (E_var rfl) rfl) (E_var rfl) (nat_beq (j:=c+m) (decide_eq_true (by rw [←h,List.length_drop,Nat.add_sub_of_le hc])))
  more m z h:=T_cmp (E_bin (E_var rfl) (E_var rfl) rfl) (E_var rfl) (nat_beq (j:=c+m) (decide_eq_false fun e=>by rw [List.length_drop,←e,Nat.add_sub_cancel_left] at h;exact Nat.lt_irrefl _ h))
  char m z ch h:=E_idx (F_t (loc:=[_,_,_,_,_,_,_,_,_,_,_,_,_])) (E_bin (E_var rfl) (E_var rfl) rfl) (idx_tx (c:=c+m) (sm hs) ((List.getElem?_drop ..).symm.trans h))
theorem for_fwd {A:Addr} {c:Nat} (hs:l.length < 1000) (hc:c ≤ l.length):ForOk (.for 13 (.range (.cons (.var 11) (.cons (.len (.amo (.var 12) (.ofString "s"))) .nil))) (faBody tF ixF)) n A id (l.drop c) (mkF l c l.length lb b k f6 f7 f8) c l.length:=by
  intro i j ci cj kk fk wa key m x h hk hw hm
  have hml:m < 1000:=Nat.lt_of_le_of_lt hm (Nat.lt_of_le_of_lt (by rw [List.length_drop];exact Nat.sub_le ..) hs)
  obtain ⟨x',h',e⟩:=fa_for (n:=n) (i:=i) (j:=j) (ci:=ci) (cj:=cj) (kk:=kk) (fk:=fk) (A:=A) hw hk (side_fwd (lb:=lb) (b:=b) (k:=k) (f6:=f6) (f7:=f7) (f8:=f8) hs hc) (key.drop m) (List.range' m (key.length - m)) m x h (drop_get key _ m rfl) hm
  refine ⟨x',h',(S_for (E_range (vs:=[ai m,ai key.length]) (A2 (E_var rfl) (E_len (E_amo (E_var rfl) hw) (len_tx (sm hk)))) (show iff (rgOk (m:Int) && rgOk (key.length:Int)) (some (AV.rng m key.length 1)) = _ by rw [rg_nat hml,rg_nat hk];rfl)) (its:=(List.range' m (key.length - m)).map fun (z:Nat)=>Atom.int z) ?_).trans e⟩
  show iff (rgOk (m:Int) && rgOk (key.length:Int)) ((iff (small ((key.length:Int) - m).toNat) (some ((List.range ((key.length:Int) - m).toNat).map fun (k:Nat)=>(m:Int)+(k:Int)))).map fun l=>l.map Atom.int) = _
  rw [rg_nat hml,rg_nat hk,Int.toNat_sub,show small (key.length - m) = true from decide_eq_true (Nat.le_trans (Nat.sub_le ..) (Nat.le_trans (Nat.le_of_lt hk) (by decide)))]
  exact congrArg some (range_map m _ _)
noncomputable abbrev tB:CE:=.cmp .eq (.bin .sub (.var 4) (.var 11)) (.var 5)
noncomputable abbrev ixB:CE:=.idx (.fld 0) (.bin .sub (.bin .sub (.var 4) (.int 1)) (.var 11))
theorem rev_get {α:Type} {l:List α} {m:Nat} {x:α} (h:l.reverse[m]? = some x):m < l.length∧l[l.length - 1 - m]? = some x:=by
  have hm:m < l.length:=by have:=(List.getElem?_eq_some_iff.mp h).1;rwa [List.length_reverse] at this
  exact ⟨hm,(List.getElem?_reverse hm).symm.trans h⟩
theorem sub_sub_nat {c m:Nat} (h:m < c):((c:Int) - 1) - m = ((c - 1 - m:Nat):Int):=by omega
theorem side_bwd {c:Nat} {lim':Int} (hs:l.length < 1000) (hc:c ≤ l.length):Side n tB ixB A wa i j c 0 ci cj kk fk (mkF l c lim' 0 b k f6 f7 f8) (l.take c).reverse where
  full m z h:=T_cmp (E_bin (E_var rfl) (E_var rfl) rfl) (E_var rfl) (show some (((c:Int) - m) == 0) = some true by rw [←h,List.length_reverse,List.length_take,Nat.min_eq_left hc,Int.sub_self];rfl)
  more m z h:=T_cmp (E_bin (E_var rfl) (E_var rfl) rfl) (E_var rfl) (show some (((c:Int) - m) == 0) = some false by
    rw [List.length_reverse,List.length_take,Nat.min_eq_left hc] at h
    exact congrArg some (beq_eq_false_iff_ne.mpr fun e=>Nat.lt_irrefl m (Int.ofNat.inj (Int.eq_of_sub_eq_zero e)▸h)))
  char m z ch h:=by
    obtain ⟨h1,h2⟩:=rev_get h
    rw [List.length_take,Nat.min_eq_left hc] at h1 h2
    have h3:l[c - 1 - m]? = some ch:=by
      rw [List.getElem?_take_of_lt (by omega)] at h2;exact h2
    exact E_idx (F_t (loc:=[_,_,_,_,_,_,_,_,_,_,_,_,_])) (E_bin (E_bin (E_var rfl) E_int rfl) (E_var rfl) (ai_eq (sub_sub_nat h1))) (idx_tx (c:=c - 1 - m) (sm hs) h3)
theorem range_mapd (a m n:Nat) (h:m+n = a):((List.range n).map fun (k:Nat)=>((a:Int) - 1 - m) - (k:Int)).map Atom.int = ((List.range' m n).map fun z=>a - 1 - z).map fun (z:Nat)=>Atom.int z:=by
  rw [List.range'_eq_map_range,List.map_map,List.map_map,List.map_map]
  refine List.map_congr_left fun z hz=>congrArg Atom.int ?_
  have:=List.mem_range.mp hz
  show ((a:Int) - 1 - m) - z = ((a - 1 - (m+z):Nat):Int)
  omega
theorem drop_getd (key:List Nat) (m:Nat):(key.drop m).map some = ((List.range' m (key.length - m)).map fun z=>key.length - 1 - z).map (key.reverse[·]?):=by
  rw [drop_get key _ m rfl,List.map_map]
  refine List.map_congr_left fun z hz=>?_
  have h1:=List.mem_range'_1.mp hz
  show key[z]? = key.reverse[key.length - 1 - z]?
  rw [List.getElem?_reverse (by omega),show key.length - 1 - (key.length - 1 - z) = z by omega]
theorem for_bwd {A:Addr} {c:Nat} {lim':Int} (hs:l.length < 1000) (hc:c ≤ l.length):ForOk (.for 13 (.range (.cons (.bin .sub (.bin .sub (.len (.amo (.var 12) (.ofString "s"))) (.int 1)) (.var 11)) (.cons (.neg 1) (.cons (.neg 1) .nil)))) (faBody tB ixB)) n A List.reverse (l.take c).reverse (mkF l c lim' 0 b k f6 f7 f8) c 0:=by
  intro i j ci cj kk fk wa key m x h hk hw hm
  have hkr:key.reverse.length < 1000:=by rw [List.length_reverse];exact hk
  have hml:m < 1000:=by rw [List.length_reverse,List.length_take] at hm;omega
  obtain ⟨x',h',e⟩:=fa_for (n:=n) (i:=i) (j:=j) (ci:=ci) (cj:=cj) (kk:=kk) (fk:=fk) (A:=A) hw hkr (side_bwd (lim':=lim') (b:=b) (k:=k) (f6:=f6) (f7:=f7) (f8:=f8) hs hc) (key.drop m) ((List.range' m (key.length - m)).map fun z=>key.length - 1 - z) m x h (drop_getd key m) hm
  have r1:rgOk ((key.length:Int) - 1 - m) = true:=rg_small (by omega) (by omega)
  refine ⟨x',h',(S_for (E_range (vs:=[ai ((key.length:Int) - 1 - m),ai (-1),ai (-1)]) (A3 (E_bin (E_bin (E_len (E_amo (E_var rfl) hw) (len_tx (sm hkr))) E_int (show binV .sub (ai (key.reverse.length:Nat)) (ai 1) = some (ai ((key.length:Int) - 1)) by rw [List.length_reverse];rfl)) (E_var rfl) rfl) rfl rfl) (show iff (rgOk ((key.length:Int) - 1 - m) && rgOk (-1) && decide ((-1:Int) = -1)) (some (AV.rng ((key.length:Int) - 1 - m) (-1) (-1))) = _ by rw [r1];rfl)) (its:=((List.range' m (key.length - m)).map fun z=>key.length - 1 - z).map fun (z:Nat)=>Atom.int z) ?_).trans e⟩
  have en:((key.length:Int) - 1 - m - (-1)).toNat = key.length - m:=by omega
  show iff (rgOk ((key.length:Int) - 1 - m) && rgOk (-1)) ((iff (true && small ((key.length:Int) - 1 - m - (-1)).toNat) (some ((List.range ((key.length:Int) - 1 - m - (-1)).toNat).map fun (k:Nat)=>((key.length:Int) - 1 - m) - (k:Int)))).map fun l=>l.map Atom.int) = _
  rw [r1,en,show small (key.length - m) = true from decide_eq_true (Nat.le_trans (Nat.sub_le ..) (Nat.le_trans (Nat.le_of_lt hk) (by decide)))]
  by_cases hmk:m ≤ key.length
  · exact congrArg some (range_mapd _ _ _ (Nat.add_sub_of_le hmk))
  · rw [Nat.sub_eq_zero_of_le (Nat.le_of_not_le hmk)];rfl
end Mine
namespace Mine
noncomputable def rep:List Nat→Nat→Nat→Nat
  | [],lo,_=>lo
  | y :: ys,lo,x=>if x < y then lo else if x = y then y else rep ys (y+1) x
noncomputable def Alike (x z y:Nat):Prop:=(x = y ↔ z = y)∧(x < y ↔ z < y)
noncomputable def Rise:Nat→List Nat→Prop
  | _,[]=>True
  | lo,y :: ys=>lo ≤ y∧Rise (y+1) ys
instance:∀ (lo:Nat) (ys:List Nat),Decidable (Rise lo ys)
  | _,[]=>.isTrue trivial
  | lo,y :: ys=>by unfold Rise;exact @instDecidableAnd _ _ _ (instDecidableRise (y+1) ys)
theorem rise_le:∀ {ys:List Nat} {lo:Nat},Rise lo ys→∀ y ∈ ys,lo ≤ y
  | y :: ys,lo,h,z,hz=>by
    rcases List.mem_cons.mp hz with rfl | hz
    · exact h.1
    · exact Nat.le_trans (Nat.le_succ_of_le h.1) (rise_le h.2 z hz)
theorem rep_lo:∀ (Y:List Nat) (lo x:Nat),Rise lo Y→lo ≤ rep Y lo x
  | [],_,_,_=>Nat.le_refl _
  | y :: ys,lo,x,h=>by
    rw [rep]
    split
    · exact Nat.le_refl _
    · split
      · exact h.1
      · exact Nat.le_trans (Nat.le_succ_of_le h.1) (rep_lo ys (y+1) x h.2)
theorem rep_alike:∀ (Y:List Nat) (lo x:Nat),Rise lo Y→lo ≤ x→∀ y ∈ Y,Alike x (rep Y lo x) y
  | y :: ys,lo,x,h,hx,z,hz=>by
    rw [rep]
    have hz':y ≤ z:=by
      rcases List.mem_cons.mp hz with rfl | hz
      · exact Nat.le_refl _
      · exact Nat.le_of_succ_le (rise_le h.2 z hz)
    unfold Alike
    have h1:=h.1
    split
    · constructor<;>constructor<;>intro q<;>omega
    · split
      · rename_i q;subst q;exact ⟨Iff.rfl,Iff.rfl⟩
      · have hl:=rep_lo ys (y+1) x h.2
        rcases List.mem_cons.mp hz with rfl | hz
        · constructor<;>constructor<;>intro q<;>omega
        · exact rep_alike ys (y+1) x h.2 (by omega) z hz
theorem cmpKey_map {φ:Nat→Nat}:∀ (r k:List Nat) (m:Nat),(∀ y ∈ k,∀ x,Alike x (φ x) y)→(cmpKey (r.map φ) k m).2 = (cmpKey r k m).2∧((cmpKey (r.map φ) k m).1 < 0 ↔ (cmpKey r k m).1 < 0)
  | [],[],m,_=>⟨rfl,Iff.rfl⟩
  | _ :: _,[],m,_=>⟨rfl,Iff.rfl⟩
  | [],_ :: _,m,_=>⟨rfl,Iff.rfl⟩
  | x :: r,y :: k,m,h=>by
    have hy:=h y (List.mem_cons_self ..) x
    have ih:=cmpKey_map r k (m+1) fun z hz=>h z (List.mem_cons_of_mem _ hz)
    unfold Alike at hy
    rw [List.map_cons]
    unfold cmpKey
    by_cases q:x = y
    · have q2:=hy.1.mp q
      rw [if_neg (by omega),if_neg (by omega)];exact ih
    · have q2:=fun e=>q (hy.1.mpr e)
      rw [if_pos (by omega),if_pos (by omega)]
      refine ⟨rfl,?_⟩
      have:=hy.2
      show ((φ x:Int) - y < 0 ↔ (x:Int) - y < 0)
      constructor<;>intro _<;>omega
theorem faLoop_map {φ:Nat→Nat} {rows:List FRow} (h:∀ k,∀ y ∈ (rows.getD k default).key,∀ x,Alike x (φ x) y) (r:List Nat):∀ (n i j ci cj:Nat) (fk:Bool),faLoop rows (r.map φ) n i j ci cj fk = faLoop rows r n i j ci cj fk
  | 0,_,_,_,_,_=>rfl
  | n+1,i,j,ci,cj,fk=>by
    have e:=cmpKey_map (φ:=φ) (r.drop (min ci cj)) (((rows.getD (i+(j - i) / 2) default).key).drop (min ci cj)) (min ci cj) fun y hy=>h _ y (List.mem_of_mem_drop hy)
    rw [faLoop,faLoop,←List.map_drop]
    by_cases q:(cmpKey (r.drop (min ci cj)) (((rows.getD (i+(j - i) / 2) default).key).drop (min ci cj)) (min ci cj)).1 < 0
    · have q':=e.2.mpr q
      simp only [if_pos q,if_pos q',e.1,faLoop_map h r n]
    · have q':=fun z=>q (e.2.mp z)
      simp only [if_neg q,if_neg q',e.1,faLoop_map h r n]
theorem getD_all {rows:List FRow} {P:List Nat→Prop} (h:∀ w ∈ rows,P w.key) (h0:P []) (k:Nat):P (rows.getD k default).key:=by
  rw [List.getD_eq_getElem?_getD]
  cases q:rows[k]? with
  | none=>exact h0
  | some w=>exact h w (List.mem_of_getElem? q)
theorem fa_map {Y:List Nat} {rows:List FRow} (hY:Rise 0 Y) (h:∀ w ∈ rows,∀ y ∈ w.key,y ∈ Y) (r:List Nat):fa rows (r.map (rep Y 0)) = fa rows r:=by
  unfold fa
  rw [faLoop_map (fun k y hy x=>rep_alike Y 0 x hY (Nat.zero_le _) y (getD_all (P:=fun l=>∀ y ∈ l,y ∈ Y) h (fun _ q=>(nomatch q)) k y hy)) r]
theorem pre_map {Y:List Nat} (hY:Rise 0 Y):∀ (K:List Nat) (h:∀ y ∈ K,y ∈ Y) (r:List Nat),K.isPrefixOf (r.map (rep Y 0)) = K.isPrefixOf r
  | [],_,_=>by simp
  | _ :: _,_,[]=>rfl
  | y :: K,h,x :: r=>by
    have e:=(rep_alike Y 0 x hY (Nat.zero_le _) y (h y (List.mem_cons_self ..))).1
    rw [List.map_cons,List.isPrefixOf,List.isPrefixOf,pre_map hY K (fun z hz=>h z (List.mem_cons_of_mem _ hz)) r]
    congr 1
    by_cases q:x = y
    · rw [e.mp q,q]
    · rw [beq_eq_false_iff_ne.mpr fun z=>q z.symm,beq_eq_false_iff_ne.mpr fun z=>q (e.mpr z.symm)]
noncomputable def AllIn (R:List Nat):List Nat→Prop
  | []=>True
  | x :: r=>x ∈ R∧AllIn R r
noncomputable def repsOf:Nat→List Nat→List Nat
  | lo,[]=>[lo]
  | lo,y :: ys=>lo :: y :: repsOf (y+1) ys
theorem rep_in:∀ (Y:List Nat) (lo x:Nat),rep Y lo x ∈ repsOf lo Y
  | [],lo,_=>List.mem_cons_self ..
  | y :: ys,lo,x=>by
    rw [rep,repsOf]
    split
    · exact List.mem_cons_self ..
    · refine List.mem_cons_of_mem _ ?_
      split
      · exact List.mem_cons_self ..
      · exact List.mem_cons_of_mem _ (rep_in ys (y+1) x)
theorem allIn_map {Y R:List Nat} (h:∀ x ∈ repsOf 0 Y,x ∈ R):∀ r:List Nat,AllIn R (r.map (rep Y 0))
  | []=>trivial
  | x :: r=>⟨h _ (rep_in Y 0 x),allIn_map h r⟩
noncomputable def cmpK:List Nat→List Nat→Nat→Int × Nat
  | [],_,m=>(0,m)
  | _ :: _,[],m=>(-1,m)
  | y :: k,x :: r,m=>if (x:Int) - y ≠ 0 then ((x:Int) - y,m) else cmpK k r (m+1)
theorem cmpK_eq:∀ (r k:List Nat) (m:Nat),cmpKey r k m = cmpK k r m
  | [],[],_=>rfl
  | _ :: _,[],_=>rfl
  | [],_ :: _,_=>rfl
  | x :: r,y :: k,m=>by rw [cmpKey,cmpK,cmpK_eq r k (m+1)]
noncomputable def fqLoop (rows:List FRow) (rest:List Nat):Nat→Nat→Nat→Nat→Nat→Bool→Option (Nat × Nat)
  | 0,_,_,_,_,_=>none
  | n+1,i,j,ci,cj,fk=>
    let k:=i+(j - i) / 2
    let m:=min ci cj
    let d:=cmpK (((rows.getD k default).key).drop m) (rest.drop m) m
    let i':=if d.1 < 0 then i else k
    let j':=if d.1 < 0 then k else j
    let ci':=if d.1 < 0 then ci else d.2
    let cj':=if d.1 < 0 then d.2 else cj
    if j' - i' ≤ 1 then (if 0 < i' then some (i',ci') else if j' = i' then some (i',ci') else if fk then some (i',ci') else fqLoop rows rest n i' j' ci' cj' true)
    else fqLoop rows rest n i' j' ci' cj' fk
theorem fq_eq (rows:List FRow) (rest:List Nat):∀ (n i j ci cj:Nat) (fk:Bool),faLoop rows rest n i j ci cj fk = fqLoop rows rest n i j ci cj fk
  | 0,_,_,_,_,_=>rfl
  | n+1,i,j,ci,cj,fk=>by
    rw [faLoop,fqLoop]
    simp only [cmpK_eq,fq_eq rows rest n]
noncomputable def fq (rows:List FRow) (rest:List Nat):Option (Nat × Int):=(fqLoop rows rest 20 0 rows.length 0 0 false).bind fun p=>faPick rows p.2 20 p.1
theorem fa_fq (rows:List FRow) (rest:List Nat):fa rows rest = fq rows rest:=by rw [fa,fq,fq_eq]
noncomputable def rows0:List FRow:=[⟨[],-1,6⟩,⟨[225],0,1⟩,⟨[228],0,1⟩,⟨[233],0,2⟩,⟨[235],0,2⟩,⟨[237],0,3⟩,⟨[239],0,3⟩,⟨[243],0,4⟩,⟨[246],0,4⟩,⟨[250],0,5⟩,⟨[252],0,5⟩]
noncomputable def end0 (r:List Nat):Nat × Int:=if [225].isPrefixOf r then (1,1) else if [228].isPrefixOf r then (1,1) else if [233].isPrefixOf r then (1,2) else if [235].isPrefixOf r then (1,2) else if [237].isPrefixOf r then (1,3) else if [239].isPrefixOf r then (1,3) else if [243].isPrefixOf r then (1,4) else if [246].isPrefixOf r then (1,4) else if [250].isPrefixOf r then (1,5) else if [252].isPrefixOf r then (1,5) else (0,6)
noncomputable abbrev ys0:List Nat:=[225,228,233,235,237,239,243,246,250,252]
theorem g0 {x:Nat} (h:x ∈ [0,225,226,228,229,233,234,235,236,237,238,239,240,243,244,246,247,250,251,252,253]):x = 0 ∨ x = 225 ∨ x = 226 ∨ x = 228 ∨ x = 229 ∨ x = 233 ∨ x = 234 ∨ x = 235 ∨ x = 236 ∨ x = 237 ∨ x = 238 ∨ x = 239 ∨ x = 240 ∨ x = 243 ∨ x = 244 ∨ x = 246 ∨ x = 247 ∨ x = 250 ∨ x = 251 ∨ x = 252 ∨ x = 253:=by simpa using h
theorem fb_0 (r0:List Nat) (h:AllIn [0,225,226,228,229,233,234,235,236,237,238,239,240,243,244,246,247,250,251,252,253] r0):fq rows0 r0 = some (end0 r0):=by
 rcases r0 with _|⟨x0,r1⟩
 kernel_rfl
 rcases g0 h.1 with rfl|rfl|rfl|rfl|rfl|rfl|rfl|rfl|rfl|rfl|rfl|rfl|rfl|rfl|rfl|rfl|rfl|rfl|rfl|rfl|rfl
 kernel_rfl
 kernel_rfl
 kernel_rfl
 kernel_rfl
 kernel_rfl
 kernel_rfl
 kernel_rfl
 kernel_rfl
 kernel_rfl
 kernel_rfl
 kernel_rfl
 kernel_rfl
 kernel_rfl
 kernel_rfl
 kernel_rfl
 kernel_rfl
 kernel_rfl
 kernel_rfl
 kernel_rfl
 kernel_rfl
 kernel_rfl
theorem fa_0 (r:List Nat):fa rows0 r = some (end0 r):=by
  rw [←fa_map (Y:=ys0) (by decide) (by decide) r,fa_fq,fb_0 _ (allIn_map (by decide) r)]
  unfold end0
  rw [pre_map (Y:=ys0) (by decide) [225] (by decide) r,pre_map (Y:=ys0) (by decide) [228] (by decide) r,pre_map (Y:=ys0) (by decide) [233] (by decide) r,pre_map (Y:=ys0) (by decide) [235] (by decide) r,pre_map (Y:=ys0) (by decide) [237] (by decide) r,pre_map (Y:=ys0) (by decide) [239] (by decide) r,pre_map (Y:=ys0) (by decide) [243] (by decide) r,pre_map (Y:=ys0) (by decide) [246] (by decide) r,pre_map (Y:=ys0) (by decide) [250] (by decide) r,pre_map (Y:=ys0) (by decide) [252] (by decide) r]
noncomputable def rows1:List FRow:=[⟨[],-1,3⟩,⟨[73],0,2⟩,⟨[89],0,1⟩]
noncomputable def end1 (r:List Nat):Nat × Int:=if [73].isPrefixOf r then (1,2) else if [89].isPrefixOf r then (1,1) else (0,3)
noncomputable abbrev ys1:List Nat:=[73,89]
theorem g1 {x:Nat} (h:x ∈ [0,73,74,89,90]):x = 0 ∨ x = 73 ∨ x = 74 ∨ x = 89 ∨ x = 90:=by simpa using h
theorem fb_1 (r0:List Nat) (h:AllIn [0,73,74,89,90] r0):fq rows1 r0 = some (end1 r0):=by
 rcases r0 with _|⟨x0,r1⟩
 kernel_rfl
 rcases g1 h.1 with rfl|rfl|rfl|rfl|rfl
 kernel_rfl
 kernel_rfl
 kernel_rfl
 kernel_rfl
 kernel_rfl
theorem fa_1 (r:List Nat):fa rows1 r = some (end1 r):=by
  rw [←fa_map (Y:=ys1) (by decide) (by decide) r,fa_fq,fb_1 _ (allIn_map (by decide) r)]
  unfold end1
  rw [pre_map (Y:=ys1) (by decide) [73] (by decide) r,pre_map (Y:=ys1) (by decide) [89] (by decide) r]
noncomputable def rows2:List FRow:=[⟨[100,100],-1,-1⟩,⟨[107,107],-1,-1⟩,⟨[116,116],-1,-1⟩]
noncomputable def end2 (r:List Nat):Nat × Int:=if [100,100].isPrefixOf r then (2,-1) else if [107,107].isPrefixOf r then (2,-1) else if [116,116].isPrefixOf r then (2,-1) else (0,0)
noncomputable abbrev ys2:List Nat:=[100,107,116]
theorem g2 {x:Nat} (h:x ∈ [0,100,101,107,108,116,117]):x = 0 ∨ x = 100 ∨ x = 101 ∨ x = 107 ∨ x = 108 ∨ x = 116 ∨ x = 117:=by simpa using h
theorem fb_2 (r0:List Nat) (h:AllIn [0,100,101,107,108,116,117] r0):fq rows2 r0 = some (end2 r0):=by
 rcases r0 with _|⟨x0,r1⟩
 kernel_rfl
 rcases g2 h.1 with rfl|rfl|rfl|rfl|rfl|rfl|rfl
 kernel_rfl
 rcases r1 with _|⟨x1,r2⟩
 kernel_rfl
 have h:=h.2
 rcases g2 h.1 with rfl|rfl|rfl|rfl|rfl|rfl|rfl
 kernel_rfl
 kernel_rfl
 kernel_rfl
 kernel_rfl
 kernel_rfl
 kernel_rfl
 kernel_rfl
 kernel_rfl
 rcases r1 with _|⟨x1,r2⟩
 kernel_rfl
 have h:=h.2
 rcases g2 h.1 with rfl|rfl|rfl|rfl|rfl|rfl|rfl
 kernel_rfl
 kernel_rfl
 kernel_rfl
 kernel_rfl
 kernel_rfl
 kernel_rfl
 kernel_rfl
 kernel_rfl
 rcases r1 with _|⟨x1,r2⟩
 kernel_rfl
 have h:=h.2
 rcases g2 h.1 with rfl|rfl|rfl|rfl|rfl|rfl|rfl
 kernel_rfl
 kernel_rfl
 kernel_rfl
 kernel_rfl
 kernel_rfl
 kernel_rfl
 kernel_rfl
 kernel_rfl
theorem fa_2 (r:List Nat):fa rows2 r = some (end2 r):=by
  rw [←fa_map (Y:=ys2) (by decide) (by decide) r,fa_fq,fb_2 _ (allIn_map (by decide) r)]
  unfold end2
  rw [pre_map (Y:=ys2) (by decide) [100,100] (by decide) r,pre_map (Y:=ys2) (by decide) [107,107] (by decide) r,pre_map (Y:=ys2) (by decide) [116,116] (by decide) r]
noncomputable def rows3:List FRow:=[⟨[101,110,101],-1,2⟩,⟨[101,115],-1,3⟩,⟨[110,101],-1,2⟩,⟨[110,101,100,101,104],2,1⟩,⟨[115],-1,3⟩]
noncomputable def end3 (r:List Nat):Nat × Int:=if [110,101,100,101,104].isPrefixOf r then (5,1) else if [101,110,101].isPrefixOf r then (3,2) else if [110,101].isPrefixOf r then (2,2) else if [101,115].isPrefixOf r then (2,3) else if [115].isPrefixOf r then (1,3) else (0,0)
noncomputable abbrev ys3:List Nat:=[100,101,104,110,115]
theorem g3 {x:Nat} (h:x ∈ [0,100,101,102,104,105,110,111,115,116]):x = 0 ∨ x = 100 ∨ x = 101 ∨ x = 102 ∨ x = 104 ∨ x = 105 ∨ x = 110 ∨ x = 111 ∨ x = 115 ∨ x = 116:=by simpa using h
theorem fb_3 (r0:List Nat) (h:AllIn [0,100,101,102,104,105,110,111,115,116] r0):fq rows3 r0 = some (end3 r0):=by
 rcases r0 with _|⟨x0,r1⟩
 kernel_rfl
 rcases g3 h.1 with rfl|rfl|rfl|rfl|rfl|rfl|rfl|rfl|rfl|rfl
 kernel_rfl
 kernel_rfl
 rcases r1 with _|⟨x1,r2⟩
 kernel_rfl
 have h:=h.2
 rcases g3 h.1 with rfl|rfl|rfl|rfl|rfl|rfl|rfl|rfl|rfl|rfl
 kernel_rfl
 kernel_rfl
 kernel_rfl
 kernel_rfl
 kernel_rfl
 kernel_rfl
 rcases r2 with _|⟨x2,r3⟩
 kernel_rfl
 have h:=h.2
 rcases g3 h.1 with rfl|rfl|rfl|rfl|rfl|rfl|rfl|rfl|rfl|rfl
 kernel_rfl
 kernel_rfl
 kernel_rfl
 kernel_rfl
 kernel_rfl
 kernel_rfl
 kernel_rfl
 kernel_rfl
 kernel_rfl
 kernel_rfl
 kernel_rfl
 kernel_rfl
 kernel_rfl
 kernel_rfl
 kernel_rfl
 kernel_rfl
 rcases r1 with _|⟨x1,r2⟩
 kernel_rfl
 have h:=h.2
 rcases g3 h.1 with rfl|rfl|rfl|rfl|rfl|rfl|rfl|rfl|rfl|rfl
 kernel_rfl
 kernel_rfl
 rcases r2 with _|⟨x2,r3⟩
 kernel_rfl
 have h:=h.2
 rcases g3 h.1 with rfl|rfl|rfl|rfl|rfl|rfl|rfl|rfl|rfl|rfl
 kernel_rfl
 rcases r3 with _|⟨x3,r4⟩
 kernel_rfl
 have h:=h.2
 rcases g3 h.1 with rfl|rfl|rfl|rfl|rfl|rfl|rfl|rfl|rfl|rfl
 kernel_rfl
 kernel_rfl
 rcases r4 with _|⟨x4,r5⟩
 kernel_rfl
 have h:=h.2
 rcases g3 h.1 with rfl|rfl|rfl|rfl|rfl|rfl|rfl|rfl|rfl|rfl
 kernel_rfl
 kernel_rfl
 kernel_rfl
 kernel_rfl
 kernel_rfl
 kernel_rfl
 kernel_rfl
 kernel_rfl
 kernel_rfl
 kernel_rfl
 kernel_rfl
 kernel_rfl
 kernel_rfl
 kernel_rfl
 kernel_rfl
 kernel_rfl
 kernel_rfl
 kernel_rfl
 kernel_rfl
 kernel_rfl
 kernel_rfl
 kernel_rfl
 kernel_rfl
 kernel_rfl
 kernel_rfl
 kernel_rfl
 kernel_rfl
 kernel_rfl
 kernel_rfl
 kernel_rfl
 kernel_rfl
 kernel_rfl
 kernel_rfl
 kernel_rfl
 kernel_rfl
theorem fa_3 (r:List Nat):fa rows3 r = some (end3 r):=by
  rw [←fa_map (Y:=ys3) (by decide) (by decide) r,fa_fq,fb_3 _ (allIn_map (by decide) r)]
  unfold end3
  rw [pre_map (Y:=ys3) (by decide) [110,101,100,101,104] (by decide) r,pre_map (Y:=ys3) (by decide) [101,110,101] (by decide) r,pre_map (Y:=ys3) (by decide) [110,101] (by decide) r,pre_map (Y:=ys3) (by decide) [101,115] (by decide) r,pre_map (Y:=ys3) (by decide) [115] (by decide) r]
noncomputable def rows4:List FRow:=[⟨[100,110,101],-1,1⟩,⟨[103,105],-1,2⟩,⟨[103,110,105],-1,1⟩,⟨[107,106,105,108],-1,3⟩,⟨[114,97,97,98],-1,4⟩,⟨[114,97,98],-1,5⟩]
noncomputable def end4 (r:List Nat):Nat × Int:=if [100,110,101].isPrefixOf r then (3,1) else if [103,110,105].isPrefixOf r then (3,1) else if [103,105].isPrefixOf r then (2,2) else if [107,106,105,108].isPrefixOf r then (4,3) else if [114,97,97,98].isPrefixOf r then (4,4) else if [114,97,98].isPrefixOf r then (3,5) else (0,0)
noncomputable abbrev ys4:List Nat:=[97,98,100,101,103,105,106,107,108,110,114]
theorem g4 {x:Nat} (h:x ∈ [0,97,98,99,100,101,102,103,104,105,106,107,108,109,110,111,114,115]):x = 0 ∨ x = 97 ∨ x = 98 ∨ x = 99 ∨ x = 100 ∨ x = 101 ∨ x = 102 ∨ x = 103 ∨ x = 104 ∨ x = 105 ∨ x = 106 ∨ x = 107 ∨ x = 108 ∨ x = 109 ∨ x = 110 ∨ x = 111 ∨ x = 114 ∨ x = 115:=by simpa using h
theorem fb_4 (r0:List Nat) (h:AllIn [0,97,98,99,100,101,102,103,104,105,106,107,108,109,110,111,114,115] r0):fq rows4 r0 = some (end4 r0):=by
 rcases r0 with _|⟨x0,r1⟩
 kernel_rfl
 rcases g4 h.1 with rfl|rfl|rfl|rfl|rfl|rfl|rfl|rfl|rfl|rfl|rfl|rfl|rfl|rfl|rfl|rfl|rfl|rfl
 kernel_rfl
 kernel_rfl
 kernel_rfl
 kernel_rfl
 rcases r1 with _|⟨x1,r2⟩
 kernel_rfl
 have h:=h.2
 rcases g4 h.1 with rfl|rfl|rfl|rfl|rfl|rfl|rfl|rfl|rfl|rfl|rfl|rfl|rfl|rfl|rfl|rfl|rfl|rfl
 kernel_rfl
 kernel_rfl
 kernel_rfl
 kernel_rfl
 kernel_rfl
 kernel_rfl
 kernel_rfl
 kernel_rfl
 kernel_rfl
 kernel_rfl
 kernel_rfl
 kernel_rfl
 kernel_rfl
 kernel_rfl
 rcases r2 with _|⟨x2,r3⟩
 kernel_rfl
 have h:=h.2
 rcases g4 h.1 with rfl|rfl|rfl|rfl|rfl|rfl|rfl|rfl|rfl|rfl|rfl|rfl|rfl|rfl|rfl|rfl|rfl|rfl
 kernel_rfl
 kernel_rfl
 kernel_rfl
 kernel_rfl
 kernel_rfl
 kernel_rfl
 kernel_rfl
 kernel_rfl
 kernel_rfl
 kernel_rfl
 kernel_rfl
 kernel_rfl
 kernel_rfl
 kernel_rfl
 kernel_rfl
 kernel_rfl
 kernel_rfl
 kernel_rfl
 kernel_rfl
 kernel_rfl
 kernel_rfl
 kernel_rfl
 kernel_rfl
 rcases r1 with _|⟨x1,r2⟩
 kernel_rfl
 have h:=h.2
 rcases g4 h.1 with rfl|rfl|rfl|rfl|rfl|rfl|rfl|rfl|rfl|rfl|rfl|rfl|rfl|rfl|rfl|rfl|rfl|rfl
 kernel_rfl
 kernel_rfl
 kernel_rfl
 kernel_rfl
 kernel_rfl
 kernel_rfl
 kernel_rfl
 kernel_rfl
 kernel_rfl
 kernel_rfl
 kernel_rfl
 kernel_rfl
 kernel_rfl
 kernel_rfl
 rcases r2 with _|⟨x2,r3⟩
 kernel_rfl
 have h:=h.2
 rcases g4 h.1 with rfl|rfl|rfl|rfl|rfl|rfl|rfl|rfl|rfl|rfl|rfl|rfl|rfl|rfl|rfl|rfl|rfl|rfl
 kernel_rfl
 kernel_rfl
 kernel_rfl
 kernel_rfl
 kernel_rfl
 kernel_rfl
 kernel_rfl
 kernel_rfl
 kernel_rfl
 kernel_rfl
 kernel_rfl
 kernel_rfl
 kernel_rfl
 kernel_rfl
 kernel_rfl
 kernel_rfl
 kernel_rfl
 kernel_rfl
 kernel_rfl
 kernel_rfl
 kernel_rfl
 kernel_rfl
 kernel_rfl
 kernel_rfl
 rcases r1 with _|⟨x1,r2⟩
 kernel_rfl
 have h:=h.2
 rcases g4 h.1 with rfl|rfl|rfl|rfl|rfl|rfl|rfl|rfl|rfl|rfl|rfl|rfl|rfl|rfl|rfl|rfl|rfl|rfl
 kernel_rfl
 kernel_rfl
 kernel_rfl
 kernel_rfl
 kernel_rfl
 kernel_rfl
 kernel_rfl
 kernel_rfl
 kernel_rfl
 kernel_rfl
 rcases r2 with _|⟨x2,r3⟩
 kernel_rfl
 have h:=h.2
 rcases g4 h.1 with rfl|rfl|rfl|rfl|rfl|rfl|rfl|rfl|rfl|rfl|rfl|rfl|rfl|rfl|rfl|rfl|rfl|rfl
 kernel_rfl
 kernel_rfl
 kernel_rfl
 kernel_rfl
 kernel_rfl
 kernel_rfl
 kernel_rfl
 kernel_rfl
 kernel_rfl
 rcases r3 with _|⟨x3,r4⟩
 kernel_rfl
 have h:=h.2
 rcases g4 h.1 with rfl|rfl|rfl|rfl|rfl|rfl|rfl|rfl|rfl|rfl|rfl|rfl|rfl|rfl|rfl|rfl|rfl|rfl
 kernel_rfl
 kernel_rfl
 kernel_rfl
 kernel_rfl
 kernel_rfl
 kernel_rfl
 kernel_rfl
 kernel_rfl
 kernel_rfl
 kernel_rfl
 kernel_rfl
 kernel_rfl
 kernel_rfl
 kernel_rfl
 kernel_rfl
 kernel_rfl
 kernel_rfl
 kernel_rfl
 kernel_rfl
 kernel_rfl
 kernel_rfl
 kernel_rfl
 kernel_rfl
 kernel_rfl
 kernel_rfl
 kernel_rfl
 kernel_rfl
 kernel_rfl
 kernel_rfl
 kernel_rfl
 kernel_rfl
 kernel_rfl
 kernel_rfl
 kernel_rfl
 kernel_rfl
 kernel_rfl
 kernel_rfl
 rcases r1 with _|⟨x1,r2⟩
 kernel_rfl
 have h:=h.2
 rcases g4 h.1 with rfl|rfl|rfl|rfl|rfl|rfl|rfl|rfl|rfl|rfl|rfl|rfl|rfl|rfl|rfl|rfl|rfl|rfl
 kernel_rfl
 rcases r2 with _|⟨x2,r3⟩
 kernel_rfl
 have h:=h.2
 rcases g4 h.1 with rfl|rfl|rfl|rfl|rfl|rfl|rfl|rfl|rfl|rfl|rfl|rfl|rfl|rfl|rfl|rfl|rfl|rfl
 kernel_rfl
 rcases r3 with _|⟨x3,r4⟩
 kernel_rfl
 have h:=h.2
 rcases g4 h.1 with rfl|rfl|rfl|rfl|rfl|rfl|rfl|rfl|rfl|rfl|rfl|rfl|rfl|rfl|rfl|rfl|rfl|rfl
 kernel_rfl
 kernel_rfl
 kernel_rfl
 kernel_rfl
 kernel_rfl
 kernel_rfl
 kernel_rfl
 kernel_rfl
 kernel_rfl
 kernel_rfl
 kernel_rfl
 kernel_rfl
 kernel_rfl
 kernel_rfl
 kernel_rfl
 kernel_rfl
 kernel_rfl
 kernel_rfl
 kernel_rfl
 kernel_rfl
 kernel_rfl
 kernel_rfl
 kernel_rfl
 kernel_rfl
 kernel_rfl
 kernel_rfl
 kernel_rfl
 kernel_rfl
 kernel_rfl
 kernel_rfl
 kernel_rfl
 kernel_rfl
 kernel_rfl
 kernel_rfl
 kernel_rfl
 kernel_rfl
 kernel_rfl
 kernel_rfl
 kernel_rfl
 kernel_rfl
 kernel_rfl
 kernel_rfl
 kernel_rfl
 kernel_rfl
 kernel_rfl
 kernel_rfl
 kernel_rfl
 kernel_rfl
 kernel_rfl
 kernel_rfl
 kernel_rfl
theorem fa_4 (r:List Nat):fa rows4 r = some (end4 r):=by
  rw [←fa_map (Y:=ys4) (by decide) (by decide) r,fa_fq,fb_4 _ (allIn_map (by decide) r)]
  unfold end4
  rw [pre_map (Y:=ys4) (by decide) [100,110,101] (by decide) r,pre_map (Y:=ys4) (by decide) [103,110,105] (by decide) r,pre_map (Y:=ys4) (by decide) [103,105] (by decide) r,pre_map (Y:=ys4) (by decide) [107,106,105,108] (by decide) r,pre_map (Y:=ys4) (by decide) [114,97,97,98] (by decide) r,pre_map (Y:=ys4) (by decide) [114,97,98] (by decide) r]
noncomputable def rows5:List FRow:=[⟨[97,97],-1,-1⟩,⟨[101,101],-1,-1⟩,⟨[111,111],-1,-1⟩,⟨[117,117],-1,-1⟩]
noncomputable def end5 (r:List Nat):Nat × Int:=if [97,97].isPrefixOf r then (2,-1) else if [101,101].isPrefixOf r then (2,-1) else if [111,111].isPrefixOf r then (2,-1) else if [117,117].isPrefixOf r then (2,-1) else (0,0)
noncomputable abbrev ys5:List Nat:=[97,101,111,117]
theorem g5 {x:Nat} (h:x ∈ [0,97,98,101,102,111,112,117,118]):x = 0 ∨ x = 97 ∨ x = 98 ∨ x = 101 ∨ x = 102 ∨ x = 111 ∨ x = 112 ∨ x = 117 ∨ x = 118:=by simpa using h
theorem fb_5 (r0:List Nat) (h:AllIn [0,97,98,101,102,111,112,117,118] r0):fq rows5 r0 = some (end5 r0):=by
 rcases r0 with _|⟨x0,r1⟩
 kernel_rfl
 rcases g5 h.1 with rfl|rfl|rfl|rfl|rfl|rfl|rfl|rfl|rfl
 kernel_rfl
 rcases r1 with _|⟨x1,r2⟩
 kernel_rfl
 have h:=h.2
 rcases g5 h.1 with rfl|rfl|rfl|rfl|rfl|rfl|rfl|rfl|rfl
 kernel_rfl
 kernel_rfl
 kernel_rfl
 kernel_rfl
 kernel_rfl
 kernel_rfl
 kernel_rfl
 kernel_rfl
 kernel_rfl
 kernel_rfl
 rcases r1 with _|⟨x1,r2⟩
 kernel_rfl
 have h:=h.2
 rcases g5 h.1 with rfl|rfl|rfl|rfl|rfl|rfl|rfl|rfl|rfl
 kernel_rfl
 kernel_rfl
 kernel_rfl
 kernel_rfl
 kernel_rfl
 kernel_rfl
 kernel_rfl
 kernel_rfl
 kernel_rfl
 kernel_rfl
 rcases r1 with _|⟨x1,r2⟩
 kernel_rfl
 have h:=h.2
 rcases g5 h.1 with rfl|rfl|rfl|rfl|rfl|rfl|rfl|rfl|rfl
 kernel_rfl
 kernel_rfl
 kernel_rfl
 kernel_rfl
 kernel_rfl
 kernel_rfl
 kernel_rfl
 kernel_rfl
 kernel_rfl
 kernel_rfl
 rcases r1 with _|⟨x1,r2⟩
 kernel_rfl
 have h:=h.2
 rcases g5 h.1 with rfl|rfl|rfl|rfl|rfl|rfl|rfl|rfl|rfl
 kernel_rfl
 kernel_rfl
 kernel_rfl
 kernel_rfl
 kernel_rfl
 kernel_rfl
 kernel_rfl
 kernel_rfl
 kernel_rfl
 kernel_rfl
theorem fa_5 (r:List Nat):fa rows5 r = some (end5 r):=by
  rw [←fa_map (Y:=ys5) (by decide) (by decide) r,fa_fq,fb_5 _ (allIn_map (by decide) r)]
  unfold end5
  rw [pre_map (Y:=ys5) (by decide) [97,97] (by decide) r,pre_map (Y:=ys5) (by decide) [101,101] (by decide) r,pre_map (Y:=ys5) (by decide) [111,111] (by decide) r,pre_map (Y:=ys5) (by decide) [117,117] (by decide) r]
end Mine
namespace Mine
theorem tab_of {A:Addr} {enc:List Nat→List Nat} {rows:List FRow} {as:List Addr} (h1:amoList A = some as) (h2:as.length = rows.length) (he:∀ l,(enc l).length = l.length)
    (hs:(List.range rows.length).map (fun k=>amoAt amoRows (as.getD k 0) (.ofString "s")) = (List.range rows.length).map fun k=>some (.str (tx (enc (rows.getD k default).key))))
    (hi:(List.range rows.length).map (fun k=>amoAt amoRows (as.getD k 0) (.ofString "substring_i")) = (List.range rows.length).map fun k=>some (.int (rows.getD k default).sub))
    (hr:(List.range rows.length).map (fun k=>amoAt amoRows (as.getD k 0) (.ofString "result")) = (List.range rows.length).map fun k=>some (.int (rows.getD k default).res))
    (hb:rows.all (fun w=>decide (w.sub < rows.length) && decide (w.key.length < 1000)) = true):TabOf A enc rows where
  len:=by
    show (amoList A).map _ = _
    rw [h1,←h2];rfl
  row k hk:=by
    have m:=List.mem_range.mpr hk
    have a1:=map_at hs m
    have a2:=map_at hi m
    have a3:=map_at hr m
    refine ⟨as.getD k 0,?_,a1,a2,a3⟩
    show iff (decide (0 ≤ (k:Int))) ((amoList A).bind fun l=>(l[k]?).map fun b=>AV.at (.cst (.ref b))) = _
    rw [decide_eq_true (Int.natCast_nonneg k),h1,List.getD_eq_getElem?_getD]
    show (as[k]?).map _ = _
    rw [List.getElem?_eq_getElem (h2▸hk)];rfl
  sub k hk:=by
    rw [List.getD_eq_getElem?_getD,List.getElem?_eq_getElem hk]
    exact of_decide_eq_true (Bool.and_eq_true_iff.mp (List.all_eq_true.mp hb _ (List.getElem_mem hk))).1
  short k:=by
    rw [List.getD_eq_getElem?_getD]
    cases hk:rows[k]? with
    | none=>decide
    | some w=>exact of_decide_eq_true (Bool.and_eq_true_iff.mp (List.all_eq_true.mp hb _ (List.mem_of_getElem? hk))).2
  enc:=he
theorem tab0:TabOf 336 id rows0:=tab_of (as:=[304,307,310,313,316,319,322,325,328,331,334]) rfl rfl (fun _=>rfl) (by kernel_rfl!) (by kernel_rfl!) (by kernel_rfl!) (by decide)
theorem tab1:TabOf 346 id rows1:=tab_of (as:=[338,341,344]) rfl rfl (fun _=>rfl) (by kernel_rfl!) (by kernel_rfl!) (by kernel_rfl!) (by decide)
theorem tab2:TabOf 356 List.reverse rows2:=tab_of (as:=[348,351,354]) rfl rfl (fun _=>List.length_reverse) (by kernel_rfl!) (by kernel_rfl!) (by kernel_rfl!) (by decide)
theorem tab3:TabOf 372 List.reverse rows3:=tab_of (as:=[358,361,364,367,370]) rfl rfl (fun _=>List.length_reverse) (by kernel_rfl!) (by kernel_rfl!) (by kernel_rfl!) (by decide)
theorem tab4:TabOf 391 List.reverse rows4:=tab_of (as:=[374,377,380,383,386,389]) rfl rfl (fun _=>List.length_reverse) (by kernel_rfl!) (by kernel_rfl!) (by kernel_rfl!) (by decide)
theorem tab5:TabOf 404 List.reverse rows5:=tab_of (as:=[393,396,399,402]) rfl rfl (fun _=>List.length_reverse) (by kernel_rfl!) (by kernel_rfl!) (by kernel_rfl!) (by decide)
variable {n:Nat} {l:List Nat} {b k:Int} {f6 f7 f8:Option Atom} {A:Addr} {rows:List FRow}
noncomputable def jk0:Jk:=⟨none,none,none,none,none,rfl,rfl,rfl,rfl,rfl⟩
theorem ret_to {o:Option (AS × Out)} {σ:AS} {v:AV} {fl:FL} (h:o = some (σ,.ret v)) (e:σ.fl = fl):retOf o = some (v,fl):=(congrArg retOf h).trans (congrArg (fun z=>some (v,z)) e)
theorem fwd_spec {lb:Int} {c:Nat} (hs:l.length < 1000) (hc:c ≤ l.length) (hT:TabOf A id rows) (h0:0 < rows.length) {p:Nat × Int} (h:fa rows (l.drop c) = some p) :
    cl (n+1) 8 [.at .me,.at (.cst (.ref A))] (mkF l c l.length lb b k f6 f7 f8) = some (ai p.2,mkF l ((c:Int)+p.1) l.length lb b k f6 f7 f8):=by
  obtain ⟨q,hq,hp⟩:=Option.bind_eq_some_iff.mp h
  obtain ⟨j',cj',fk',J',hqi,e1⟩:=fa_loop hT (for_fwd (n:=n) (A:=A) (lb:=lb) (b:=b) (k:=k) (f6:=f6) (f7:=f7) (f8:=f8) hs hc) 20 (J:=jk0) 1000 ⟨h0,Nat.zero_le _,Nat.le_refl _,Nat.zero_le _,Nat.zero_le _⟩ (by decide) hq
  obtain ⟨σ',e2,e3⟩:=fa_pick (n:=n) (f:=mkF l c l.length lb b k f6 f7 f8) (c:=c) (lim:=l.length) hT (o:=.add) (g:=fun k=>(c:Int)+k) (fun k=>rfl) rfl (Int.add_zero _) 20 (j:=j') (cj:=cj') (fk:=fk') (J:=J') 1000 hqi (by decide) hp
  rw [cl_at (F:=⟨2,_,c_find_among⟩) rfl rfl]
  have e0:evB tabs (cl n) 1000 c_find_among ⟨[some (.at .me),some (.at (.cst (.ref A))),none,none,none,none,none,none,none,none,none,none,none,none],mkF l c l.length lb b k f6 f7 f8⟩ = some (σ',.ret (ai p.2)):=
    (B_next (S_assign E_int rfl rfl)).trans ((B_next (S_assign (E_len (E_var rfl) hT.len) rfl rfl)).trans ((B_next (S_assign (E_fld rfl rfl) rfl rfl)).trans ((B_next (S_assign (E_fld rfl rfl) rfl rfl)).trans ((B_next (S_assign E_int rfl rfl)).trans ((B_next (S_assign E_int rfl rfl)).trans ((B_next (S_assign (e:=.bool false) rfl rfl rfl)).trans
      ((B_next (S_while.trans e1)).trans (B_ret (S_while.trans e3)))))))))
  exact ret_to e0 e2
theorem bwd_spec {lim:Int} {c:Nat} (hs:l.length < 1000) (hc:c ≤ l.length) (hT:TabOf A List.reverse rows) (h0:0 < rows.length) {p:Nat × Int} (h:fa rows (l.take c).reverse = some p) :
    cl (n+1) 9 [.at .me,.at (.cst (.ref A))] (mkF l c lim 0 b k f6 f7 f8) = some (ai p.2,mkF l ((c:Int) - p.1) lim 0 b k f6 f7 f8):=by
  obtain ⟨q,hq,hp⟩:=Option.bind_eq_some_iff.mp h
  obtain ⟨j',cj',fk',J',hqi,e1⟩:=fa_loop hT (for_bwd (n:=n) (A:=A) (b:=b) (k:=k) (f6:=f6) (f7:=f7) (f8:=f8) (lim':=lim) hs hc) 20 (J:=jk0) 1000 ⟨h0,Nat.zero_le _,Nat.le_refl _,Nat.zero_le _,Nat.zero_le _⟩ (by decide) hq
  obtain ⟨σ',e2,e3⟩:=fa_pick (n:=n) (f:=mkF l c lim 0 b k f6 f7 f8) (c:=c) (lim:=0) hT (o:=.sub) (g:=fun k=>(c:Int) - k) (fun k=>rfl) rfl (Int.sub_zero _) 20 (j:=j') (cj:=cj') (fk:=fk') (J:=J') 1000 hqi (by decide) hp
  rw [cl_at (F:=⟨2,_,c_find_among_b⟩) rfl rfl]
  have e0:evB tabs (cl n) 1000 c_find_among_b ⟨[some (.at .me),some (.at (.cst (.ref A))),none,none,none,none,none,none,none,none,none,none,none,none],mkF l c lim 0 b k f6 f7 f8⟩ = some (σ',.ret (ai p.2)):=
    (B_next (S_assign E_int rfl rfl)).trans ((B_next (S_assign (E_len (E_var rfl) hT.len) rfl rfl)).trans ((B_next (S_assign (E_fld rfl rfl) rfl rfl)).trans ((B_next (S_assign (E_fld rfl rfl) rfl rfl)).trans ((B_next (S_assign E_int rfl rfl)).trans ((B_next (S_assign E_int rfl rfl)).trans ((B_next (S_assign (e:=.bool false) rfl rfl rfl)).trans
      ((B_next (S_while.trans e1)).trans (B_ret (S_while.trans e3)))))))))
  exact ret_to e0 e2
end Mine
namespace Mine
noncomputable abbrev mkR (r:List Nat) (c b k p1 p2:Int) (f8:Option Atom):FL:=mkF r.reverse c r.length 0 b k (aI p1) (aI p2) f8
noncomputable def isV (x:Nat):Bool:=[97,101,105,111,117,121,232].contains x
noncomputable def isVI (x:Nat):Bool:=[73,97,101,105,111,117,121,232].contains x
noncomputable def isVj (x:Nat):Bool:=[97,101,105,106,111,117,121,232].contains x
theorem chr1_inj (a b:Nat):(chr1 a == chr1 b) = (a == b):=by
  by_cases h:a = b
  · subst h;simp
  · rw [beq_eq_false_iff_ne.mpr h]
    refine beq_eq_false_iff_ne.mpr fun q=>h ?_
    have:(chr1 a).cps = (chr1 b).cps:=congrArg Str.cps q
    simpa [chr1] using this
theorem chr1_contains (l:List Nat) (x:Nat):(l.map chr1).contains (chr1 x) = l.contains x:=by
  induction l with
  | nil=>rfl
  | cons a l ih=>simp only [List.map_cons,List.contains_cons,ih,chr1_inj]
theorem set230 (x:Nat):inSet 230 x = isV x:=chr1_contains [97,101,105,111,117,121,232] x
theorem set231 (x:Nat):inSet 231 x = isVI x:=chr1_contains [73,97,101,105,111,117,121,232] x
theorem set232 (x:Nat):inSet 232 x = isVj x:=chr1_contains [97,101,105,106,111,117,121,232] x
theorem take_es (e s:List Nat):((e ++ s).reverse).take s.length = s.reverse:=by
  rw [List.reverse_append,←List.length_reverse (as:=s),List.take_left]
theorem drop_es (e s:List Nat):((e ++ s).reverse).drop s.length = e.reverse:=by
  rw [List.reverse_append,←List.length_reverse (as:=s),List.drop_left]
variable {n:Nat} {r e s:List Nat} {b k p1 p2:Int} {f8:Option Atom}
theorem del_R (h:(e ++ s).length < 1000):cl (n+3) 12 [.at .me] (mkR (e ++ s) s.length s.length (e ++ s).length p1 p2 f8) = some (.at (.cst .none),mkR s s.length s.length s.length p1 p2 f8):=by
  have:=slice_del_spec (n:=n) (l:=(e ++ s).reverse) (lb:=0) (f6:=aI p1) (f7:=aI p2) (f8:=f8) (c:=s.length) (b:=s.length) (k:=(e ++ s).reverse.length) (by rw [List.length_reverse];exact h) (by simp) (Nat.le_refl _)
  rw [take_es] at this
  rw [List.drop_length,List.append_nil] at this
  simp only [List.length_reverse] at this
  refine this.trans ?_
  have h1:moved s.length s.length (e ++ s).length (0 - (((e ++ s).length:Int) - s.length)) = s.length:=by
    unfold moved;simp only [List.length_append]
    split
    · omega
    · simp
  have h2:((e ++ s).length:Int)+(0 - (((e ++ s).length:Int) - s.length)) = s.length:=by omega
  rw [h1,h2]
theorem from_R {y:List Nat} (he:e ≠ []) (h:(e ++ s).length+y.length < 1000):cl (n+2) 11 [.at .me,as (tx y)] (mkR (e ++ s) s.length s.length (e ++ s).length p1 p2 f8) = some (.at (.cst .none),mkR (y.reverse ++ s) s.length s.length ((s.length:Int)+y.length) p1 p2 f8):=by
  have:=slice_from_spec (n:=n) (l:=(e ++ s).reverse) (lb:=0) (f6:=aI p1) (f7:=aI p2) (f8:=f8) (c:=s.length) (b:=s.length) (k:=(e ++ s).reverse.length) (y:=y) (by rw [List.length_reverse];exact h) (by simp) (Nat.le_refl _)
  rw [take_es] at this
  rw [List.drop_length,List.append_nil] at this
  simp only [List.length_reverse] at this
  refine this.trans ?_
  have h0:0 < e.length:=List.length_pos_iff.mpr he
  have h1:moved s.length s.length (e ++ s).length ((y.length:Int) - (((e ++ s).length:Int) - s.length)) = s.length:=by
    unfold moved;simp only [List.length_append]
    split
    · omega
    · simp
  have h2:((e ++ s).length:Int)+((y.length:Int) - (((e ++ s).length:Int) - s.length)) = (y.reverse ++ s).length:=by simp only [List.length_append,List.length_reverse];omega
  have h3:s.reverse ++ y = (y.reverse ++ s).reverse:=by simp
  rw [h1,h2,h3]
theorem out_R_nil {a:Addr}:cl (n+1) 6 [.at .me,.at (.cst (.ref a))] (mkR e 0 b k p1 p2 f8) = some (ab false,mkR e 0 b k p1 p2 f8):=out_b_end
theorem out_R {a:Addr} {L:List Str} {x:Nat} (hL:setAt a = some L) (hs:(e ++ x :: s).length < 1000):cl (n+1) 6 [.at .me,.at (.cst (.ref a))] (mkR (e ++ x :: s) (x :: s).length b k p1 p2 f8) =
    some (ab (!inSet a x),mkR (e ++ x :: s) (if inSet a x then (x :: s).length else s.length:Nat) b k p1 p2 f8):=by
  have hc:((e ++ x :: s).reverse)[s.length]? = some x:=by
    rw [List.reverse_append,List.reverse_cons,List.append_assoc,←List.length_reverse (as:=s),List.getElem?_append_right (Nat.le_refl _)];simp
  have:=out_b_at (n:=n) (b:=b) (k:=k) (lim:=(e ++ x :: s).length) (f6:=aI p1) (f7:=aI p2) (f8:=f8) hL (l:=(e ++ x :: s).reverse) (by simp only [small,decide_eq_true_eq,List.length_reverse];omega) hc
  refine this.trans ?_
  cases inSet a x<;>rfl
theorem eq_R {y:List Nat} (hs:(e ++ s).length < 1000) (hy:y.length < 1000):cl (n+1) 7 [.at .me,as (tx y)] (mkR (e ++ s) s.length b k p1 p2 f8) =
    some (ab (y.reverse.isPrefixOf s),mkR (e ++ s) (if y.reverse.isPrefixOf s then (s.length:Int) - y.length else s.length) b k p1 p2 f8):=by
  have:=eq_b_spec (n:=n) (b:=b) (k:=k) (lim:=(e ++ s).length) (f6:=aI p1) (f7:=aI p2) (f8:=f8) (l:=(e ++ s).reverse) (c:=s.length) (y:=y) (by rw [List.length_reverse];exact hs) hy (by simp)
  rw [take_es] at this
  have h:y.isSuffixOf s.reverse = y.reverse.isPrefixOf s:=by rw [List.isSuffixOf,List.reverse_reverse]
  rw [h] at this
  refine this.trans ?_
  cases y.reverse.isPrefixOf s<;>rfl
theorem bwd_R {A:Addr} {rows:List FRow} (hs:(e ++ s).length < 1000) (hT:TabOf A List.reverse rows) (h0:0 < rows.length) {p:Nat × Int} (h:fa rows s = some p) :
    cl (n+1) 9 [.at .me,.at (.cst (.ref A))] (mkR (e ++ s) s.length b k p1 p2 f8) = some (ai p.2,mkR (e ++ s) ((s.length:Int) - p.1) b k p1 p2 f8):=
  bwd_spec (l:=(e ++ s).reverse) (c:=s.length) (by rw [List.length_reverse];exact hs) (by simp) hT h0 (by rw [take_es,List.reverse_reverse];exact h)
theorem at_v:tabs.cattr (.ofString "g_v") = some 230:=by decide +kernel
theorem at_vI:tabs.cattr (.ofString "g_v_I") = some 231:=by decide +kernel
theorem at_vj:tabs.cattr (.ofString "g_v_j") = some 232:=by decide +kernel
theorem at_a0:tabs.cattr (.ofString "a_0") = some 336:=by decide +kernel
theorem at_a1:tabs.cattr (.ofString "a_1") = some 346:=by decide +kernel
theorem at_a2:tabs.cattr (.ofString "a_2") = some 356:=by decide +kernel
theorem at_a3:tabs.cattr (.ofString "a_3") = some 372:=by decide +kernel
theorem at_a4:tabs.cattr (.ofString "a_4") = some 391:=by decide +kernel
theorem at_a5:tabs.cattr (.ofString "a_5") = some 404:=by decide +kernel
noncomputable def dbl (r:List Nat):Bool:=[100,100].isPrefixOf r || ([107,107].isPrefixOf r || [116,116].isPrefixOf r)
noncomputable def single (r:List Nat):List Nat:=if dbl r then r.tail else r
theorem end2_eq (r:List Nat):end2 r = if dbl r then (2,-1) else (0,0):=by
  unfold end2 dbl
  cases [100,100].isPrefixOf r<;>cases [107,107].isPrefixOf r<;>cases [116,116].isPrefixOf r<;>rfl
theorem T_le {x y:Nat} {loc:List (Option AV)} {l:List Nat} {lim b k:Int} {f6 f7 f8:Option Atom} {Γ:Call} {v:Bool} (h:decide (x ≤ y) = v):evT tabs Γ (.cmp .le (.fld 1) (.fld 3)) ⟨some (.at .me) :: loc,mkF l x lim y b k f6 f7 f8⟩ = some (v,mkF l x lim y b k f6 f7 f8):=
  T_cmp (E_fld rfl rfl) (E_fld rfl rfl) (congrArg some ((decide_eq_decide.mpr Int.ofNat_le).trans h))
theorem dbl_two {r:List Nat} (h:dbl r = true):∃ x y s,r = x :: y :: s:=by
  match r,h with
  | [],h=>cases h
  | [x],h=>simp [dbl,List.isPrefixOf] at h
  | x :: y :: s,_=>exact ⟨x,y,s,rfl⟩
theorem pred_len {x:Nat} {s:List Nat}:((x :: s).length:Int) - 1 = s.length:=by
  show (s.length:Int)+1 - 1 = s.length
  exact Int.add_sub_cancel _ _
theorem R_dec {x:Nat} {Γ:Call} {N:Nat} {loc:List (Option AV)}:evS tabs Γ N (.augf 1 .sub (.int 1)) ⟨some (.at .me) :: loc,mkR r (x :: s).length b k p1 p2 f8⟩ = some (⟨some (.at .me) :: loc,mkR r s.length b k p1 p2 f8⟩,.next):=by
  rw [F_dec,pred_len]
theorem undouble (hr:r.length < 1000):∃ c' b' k':Int,cl (n+4) 20 [.at .me] (mkR r r.length b k p1 p2 f8) = some (ab (dbl r),mkR (single r) c' b' k' p1 p2 f8):=by
  rw [cl_at (F:=⟨1,_,c_r_undouble⟩) rfl rfl]
  have hb:=bwd_R (n:=n+2) (e:=[]) (s:=r) (b:=b) (k:=k) (p1:=p1) (p2:=p2) (f8:=f8) hr tab2 (by decide) (fa_2 r)
  rw [List.nil_append,end2_eq] at hb
  have h0:(r.length:Int) - r.length = 0:=Int.sub_self _
  have e0:evB tabs (cl (n+3)) 1000 c_r_undouble ⟨[some (.at .me),none],mkR r r.length b k p1 p2 f8⟩ = _:=B_next (S_assign (E_bin F_l F_c (sub_ai h0)) rfl rfl)
  have hc:=E_callM (T:=tabs) (σ:=⟨[some (.at .me),vI 0],mkR r r.length b k p1 p2 f8⟩) (i:=0) rfl (A_cattr at_a2) rfl rfl hb
  unfold single
  cases hd:dbl r with
  | false=>
    rw [hd] at hc
    exact ⟨(r.length:Int) - (0:Nat),b,k,ret_of (e0.trans (B_quit (T_cmp hc E_int rfl))) rfl⟩
  | true=>
    rw [hd] at hc
    obtain ⟨x,y,s,rfl⟩:=dbl_two hd
    refine ⟨(y :: s).length,(y :: s).length,(y :: s).length,ret_to (σ:=⟨[some (.at .me),vI 0],mkR (y :: s) (y :: s).length (y :: s).length (y :: s).length p1 p2 f8⟩) (e0.trans ((B_skip (T_cmp hc E_int rfl)).trans ((B_next (F_back (z:=0) rfl)).trans ?_))) rfl⟩
    rw [Int.sub_zero]
    have hdel:=del_R (n:=n) (e:=[x]) (s:=y :: s) (p1:=p1) (p2:=p2) (f8:=f8) hr
    exact (B_next F_ket).trans ((B_skip (T_le (y:=0) (decide_eq_false (Nat.not_succ_le_zero _)))).trans ((B_next (R_dec (x:=x))).trans ((B_next F_bra).trans ((B_next (S_expr (E_callM (i:=0) rfl A_nil rfl rfl hdel))).trans ret_true))))
end Mine
namespace Mine
noncomputable abbrev aB (v:Bool):Option Atom:=some (.cst (.bool v))
noncomputable def Gives (o:Option (AV × FL)) (r:List Nat) (p1 p2:Int) (f8:Option Atom):Prop:=∃ (v:Bool) (c b k:Int),o = some (ab v,mkR r c b k p1 p2 f8)
theorem Gives.mk {o:Option (AV × FL)} {r:List Nat} {p1 p2:Int} {f8:Option Atom} {v:Bool} {c b k:Int} (h:o = some (ab v,mkR r c b k p1 p2 f8)):Gives o r p1 p2 f8:=⟨v,c,b,k,h⟩
theorem Gives.ret {loc:List (Option AV)} {r:List Nat} {p1 p2:Int} {f8:Option Atom} {v:Bool} {c b k:Int}:Gives (retOf (some (⟨loc,mkR r c b k p1 p2 f8⟩,.ret (ab v)))) r p1 p2 f8:=⟨v,c,b,k,rfl⟩
noncomputable def shut:List Nat→Bool
  | []=>false
  | x :: _=>!isV x
noncomputable def shutj:List Nat→Bool
  | []=>false
  | x :: _=>!isVj x
variable {n:Nat} {r e s:List Nat} {b k p1 p2:Int} {f8:Option Atom} {Γ:Call} {N:Nat} {loc:List (Option AV)}
theorem idx_R {x:Nat} (hs:(e ++ x :: s).length < 1000):idxV (.at (.str (tx (e ++ x :: s).reverse))) (.at (.int s.length)) = some (as (chr1 x)):=by
  refine idx_tx (by rw [List.length_reverse];simp only [small,decide_eq_true_eq];omega) ?_
  rw [List.reverse_append,List.reverse_cons,List.append_assoc,←List.length_reverse (as:=s),List.getElem?_append_right (Nat.le_refl _)];simp
theorem chr1_ne (x y:Nat):((chr1 x:Str) != ⟨#[y]⟩) = (x != y):=by
  have:(⟨#[y]⟩:Str) = chr1 y:=rfl
  rw [this,bne,bne,chr1_inj]
theorem chr1_eq (x y:Nat):((chr1 x:Str) == ⟨#[y]⟩) = (x == y):=by
  have:(⟨#[y]⟩:Str) = chr1 y:=rfl
  rw [this,chr1_inj]
theorem T_last {y:Nat} (hs:(e ++ s).length < 1000):evT tabs Γ (.or (.cons (.cmp .le (.fld 1) (.fld 3)) (.cons (.cmp .ne (.idx (.fld 0) (.bin .sub (.fld 1) (.int 1))) (.str ⟨#[y]⟩)) .nil))) ⟨some (.at .me) :: loc,mkR (e ++ s) s.length b k p1 p2 f8⟩ =
    some (s.head? != some y,mkR (e ++ s) s.length b k p1 p2 f8):=by
  cases s with
  | nil=>exact T_of (E_or2 (va:=true) (vb:=true) (E_cmp (E_fld rfl rfl) (E_fld rfl rfl) rfl) fun h=>nomatch h)
  | cons x s=>
    have h0:cmpV .le (ai ((x :: s).length:Nat)) (ai 0) = some false:=congrArg some (decide_eq_false (show ¬((x :: s).length:Int) ≤ (0:Nat) from fun h=>Nat.not_succ_le_zero _ (Int.ofNat_le.mp h)))
    have h3:=idx_R hs
    have h4:cmpV .ne (as (chr1 x)) (as ⟨#[y]⟩) = some (x != y):=congrArg some (chr1_ne x y)
    have h5:(some x != some y) = (x != y):=rfl
    exact T_of (E_or2 (va:=false) (E_cmp F_c (E_fld rfl rfl) h0) fun _=>E_cmp (E_idx F_t (E_bin F_c E_int (sub_ai pred_len)) h3) E_str h4)
theorem T_R1 {c:Int} {n:Nat} {p1:Int} (ho:hasOwn ⟨some (.at .me) :: loc,mkR r c b k p1 p2 f8⟩ = false):evT tabs (cl (n+1)) (.not (.callM 0 18 .nil)) ⟨some (.at .me) :: loc,mkR r c b k p1 p2 f8⟩ = some (!decide (p1 ≤ c),mkR r c b k p1 p2 f8):=
  T_not ((E_callM rfl A_nil rfl ho R1_spec))
theorem T_R2 {c:Int} {n:Nat} {p1:Int} (ho:hasOwn ⟨some (.at .me) :: loc,mkR r c b k p1 p2 f8⟩ = false):evT tabs (cl (n+1)) (.not (.callM 0 19 .nil)) ⟨some (.at .me) :: loc,mkR r c b k p1 p2 f8⟩ = some (!decide (p2 ≤ c),mkR r c b k p1 p2 f8):=
  T_not ((E_callM rfl A_nil rfl ho R2_spec))
theorem T_shut {n:Nat} (hs:(e ++ s).length < 1000) (ho:hasOwn ⟨some (.at .me) :: loc,mkR (e ++ s) s.length b k p1 p2 f8⟩ = false):∃ c:Int,evT tabs (cl (n+1)) (.not (.callM 0 6 (.cons (.cattr (.ofString "g_v")) .nil))) ⟨some (.at .me) :: loc,mkR (e ++ s) s.length b k p1 p2 f8⟩ = some (!shut s,mkR (e ++ s) c b k p1 p2 f8):=by
  cases s with
  | nil=>exact ⟨_,T_not ((E_callM rfl (A_cattr at_v) rfl ho out_R_nil))⟩
  | cons x s=>
    refine ⟨((if inSet 230 x = true then (x :: s).length else s.length:Nat):Int),(T_not ((E_callM rfl (A_cattr at_v) rfl ho (out_R (by rfl) hs)))).trans ?_⟩
    rw [set230];rfl
theorem T_shutj {n:Nat} (hs:(e ++ s).length < 1000) (ho:hasOwn ⟨some (.at .me) :: loc,mkR (e ++ s) s.length b k p1 p2 f8⟩ = false):∃ c:Int,evT tabs (cl (n+1)) (.not (.callM 0 6 (.cons (.cattr (.ofString "g_v_j")) .nil))) ⟨some (.at .me) :: loc,mkR (e ++ s) s.length b k p1 p2 f8⟩ = some (!shutj s,mkR (e ++ s) c b k p1 p2 f8):=by
  cases s with
  | nil=>exact ⟨_,T_not ((E_callM rfl (A_cattr at_vj) rfl ho out_R_nil))⟩
  | cons x s=>
    refine ⟨((if inSet 232 x = true then (x :: s).length else s.length:Nat):Int),(T_not ((E_callM rfl (A_cattr at_vj) rfl ho (out_R (by rfl) hs)))).trans ?_⟩
    rw [set232];rfl
theorem S_cur {c z:Int} {i:Nat} (h:(some (.at .me) :: loc)[i]? = some (vI z)):evS tabs Γ N (.setf 1 (.bin .sub (.fld 2) (.var i))) ⟨some (.at .me) :: loc,mkR r c b k p1 p2 f8⟩ = some (⟨some (.at .me) :: loc,mkR r ((r.length:Int) - z) b k p1 p2 f8⟩,.next):=F_back h
theorem S_v {c:Int} {i:Nat} (ho:okSet i ⟨some (.at .me) :: loc,mkR r c b k p1 p2 f8⟩ = true):evS tabs Γ N (.assign i (.bin .sub (.fld 2) (.fld 1))) ⟨some (.at .me) :: loc,mkR r c b k p1 p2 f8⟩ = some (⟨(some (.at .me) :: loc).set i (vI ((r.length:Int) - c)),mkR r c b k p1 p2 f8⟩,.next):=S_assign (E_bin F_l F_c rfl) rfl ho
theorem cur_back {r s:List Nat}:(r.length:Int) - ((r.length:Int) - s.length) = s.length:=Int.sub_sub_self ..
theorem F_b8 {l:List Nat} {c lim lb:Int} {f6 f7 f8:Option Atom} {v:Bool}:evS tabs Γ N (.setf 8 (.bool v)) ⟨some (.at .me) :: loc,mkF l c lim lb b k f6 f7 f8⟩ = some (⟨some (.at .me) :: loc,mkF l c lim lb b k f6 f7 (aB v)⟩,.next):=S_setf (fl:=mkF l c lim lb b k f6 f7 f8) (a:=.cst (.bool v)) rfl rfl rfl
theorem S_cb {c:Int} {s:List Nat} {i:Nat} (h:(some (.at .me) :: loc)[i]? = some (vI ((r.length:Int) - s.length))):evS tabs Γ N (.setf 1 (.bin .sub (.fld 2) (.var i))) ⟨some (.at .me) :: loc,mkR r c b k p1 p2 f8⟩ = some (⟨some (.at .me) :: loc,mkR r s.length b k p1 p2 f8⟩,.next):=by
  rw [S_cur h,cur_back]
theorem Gives.of {o:Option (AS × Out)} {loc:List (Option AV)} {r:List Nat} {p1 p2:Int} {f8:Option Atom} {v:Bool} {c b k:Int} (h:o = some (⟨loc,mkR r c b k p1 p2 f8⟩,.ret (ab v))):Gives (retOf o) r p1 p2 f8:=⟨v,c,b,k,congrArg retOf h⟩
theorem Gives.as {o:Option (AV × FL)} {r r':List Nat} {p1 p2:Int} {f8 f8':Option Atom} (h:Gives o r p1 p2 f8) (e:r = r') (e8:f8 = f8'):Gives o r' p1 p2 f8':=e▸e8▸h
theorem T_shut' {n:Nat} (hs:(e ++ s).length < 1000) (ho:hasOwn ⟨some (.at .me) :: loc,mkR (e ++ s) s.length b k p1 p2 f8⟩ = false) {v:Bool} (hv:(!shut s) = v):∃ c:Int,evT tabs (cl (n+1)) (.not (.callM 0 6 (.cons (.cattr (.ofString "g_v")) .nil))) ⟨some (.at .me) :: loc,mkR (e ++ s) s.length b k p1 p2 f8⟩ = some (v,mkR (e ++ s) c b k p1 p2 f8):=hv▸T_shut hs ho
theorem not_dec {p:Prop} [Decidable p] (h:p):(!decide p) = false:=by rw [decide_eq_true h];rfl
theorem not_decf {p:Prop} [Decidable p] (h:¬p):(!decide p) = true:=by rw [decide_eq_false h];rfl
theorem int_le {a b:Nat} (h:a ≤ b):(a:Int) ≤ b:=Int.ofNat_le.mpr h
theorem int_nle {a b:Nat} (h:¬a ≤ b):¬(a:Int) ≤ b:=fun e=>h (Int.ofNat_le.mp e)
noncomputable def lessE (p:Nat):List Nat→Option (List Nat)
  | []=>none
  | x :: s=>if x == 101 && (decide (p ≤ s.length) && shut s) then some (single s) else none
theorem e_ending1 {p1:Nat} (hr:(101 :: s).length < 1000):Gives (retOf (evB tabs (cl (n+4)) 1000 (.cons (.ite (.not (.callM 0 18 .nil)) (.cons (.ret (.bool false)) .nil) .nil) (.cons (.assign 1 (.bin .sub (.fld 2) (.fld 1))) (.cons (.ite (.not (.callM 0 6 (.cons (.cattr (.ofString "g_v")) .nil))) (.cons (.ret (.bool false)) .nil) .nil) (.cons (.setf 1 (.bin .sub (.fld 2) (.var 1))) (.cons (.expr (.callM 0 12 .nil)) (.cons (.setf 8 (.bool true)) (.cons (.ret (.callM 0 20 .nil)) .nil))))))) ⟨[some (.at .me),none],mkR (101 :: s) s.length s.length (101 :: s).length p1 p2 (aB false)⟩))
    (((if decide (p1 ≤ s.length) && shut s then some (single s) else none:Option (List Nat))).getD (101 :: s)) p1 p2 (aB (if decide (p1 ≤ s.length) && shut s then some (single s) else none:Option (List Nat)).isSome):=by
  have h2:=T_R1 (n:=n+3) (r:=101 :: s) (c:=s.length) (b:=s.length) (k:=(101 :: s).length) (p1:=p1) (p2:=p2) (f8:=aB false) (loc:=[none]) rfl
  by_cases hp:p1 ≤ s.length
  · rw [decide_eq_true hp,Bool.true_and]
    have e1:=(B_skip (a:=.cons (.ret (.bool false)) .nil) (T_val h2 (not_dec (int_le hp)))).trans (B_next (r:=(.cons (.ite (.not (.callM 0 6 (.cons (.cattr (.ofString "g_v")) .nil))) (.cons (.ret (.bool false)) .nil) .nil) (.cons (.setf 1 (.bin .sub (.fld 2) (.var 1))) (.cons (.expr (.callM 0 12 .nil)) (.cons (.setf 8 (.bool true)) (.cons (.ret (.callM 0 20 .nil)) .nil)))))) (N:=1000) (S_v (i:=1) rfl))
    cases hsh:shut s with
    | false=>
      obtain ⟨c,h3⟩:=T_shut' (n:=n+3) (e:=[101]) (s:=s) (b:=s.length) (k:=(101 :: s).length) (p1:=p1) (p2:=p2) (f8:=aB false) (loc:=[vI (((101 :: s).length:Int) - s.length)]) hr rfl (v:=true) (by rw [hsh];rfl)
      exact Gives.of (e1.trans (B_quit h3))
    | true=>
      obtain ⟨c,h3⟩:=T_shut' (n:=n+3) (e:=[101]) (s:=s) (b:=s.length) (k:=(101 :: s).length) (p1:=p1) (p2:=p2) (f8:=aB false) (loc:=[vI (((101 :: s).length:Int) - s.length)]) hr rfl (v:=false) (by rw [hsh];rfl)
      have hdel:=del_R (n:=n+1) (e:=[101]) (s:=s) (p1:=p1) (p2:=p2) (f8:=aB false) hr
      obtain ⟨c',b',k',h4⟩:=undouble (n:=n) (r:=s) (b:=s.length) (k:=s.length) (p1:=p1) (p2:=p2) (f8:=aB true) (Nat.lt_of_succ_lt hr)
      exact Gives.of (e1.trans ((B_skip h3).trans ((B_next (S_cb rfl)).trans ((B_next (S_expr (E_callM (i:=0) rfl A_nil rfl rfl hdel))).trans ((B_next F_b8).trans (B_ret (S_ret (E_callM rfl A_nil rfl rfl h4) rfl)))))))
  · rw [decide_eq_false hp,Bool.false_and]
    exact Gives.of (B_quit (T_val h2 (not_decf (int_nle hp))))
theorem e_ending {p1:Nat} (hr:r.length < 1000):Gives (cl (n+5) 21 [.at .me] (mkR r r.length b k p1 p2 f8)) ((lessE p1 r).getD r) p1 p2 (aB (lessE p1 r).isSome):=by
  rw [cl_at (F:=⟨1,_,c_r_e_ending⟩) rfl rfl]
  have hl:=T_last (y:=101) (e:=[]) (s:=r) (Γ:=cl (n+4)) (b:=b) (k:=r.length) (p1:=p1) (p2:=p2) (f8:=aB false) (loc:=[none]) hr
  have e0:evB tabs (cl (n+4)) 1000 c_r_e_ending ⟨[some (.at .me),none],mkR r r.length b k p1 p2 f8⟩ = _:=(B_next F_b8).trans (B_next F_ket)
  rcases r with _ | ⟨x,s⟩
  · exact Gives.of (e0.trans (B_quit hl))
  by_cases hx:x = 101
  · subst hx
    rw [show lessE p1 (101 :: s) = if decide (p1 ≤ s.length) && shut s then some (single s) else none from rfl]
    have e1:=e0.trans ((B_skip hl).trans ((B_next (R_dec (x:=101))).trans (B_next F_bra)))
    obtain ⟨v,c,b,k,h⟩:=e_ending1 (n:=n) (p2:=p2) (p1:=p1) hr
    exact ⟨v,c,b,k,(congrArg retOf e1).trans h⟩
  · have hv:lessE p1 (x :: s) = none:=if_neg (by rw [beq_eq_false_iff_ne.mpr hx];exact Bool.false_ne_true)
    rw [hv]
    exact Gives.of (e0.trans (B_quit (T_val hl (bne_iff_ne.mpr fun e=>hx (Option.some.inj e)))))
noncomputable def gem (s:List Nat):Bool:=[109,101,103].isPrefixOf s
noncomputable def lessEn (p:Nat) (r s:List Nat):List Nat:=if decide (p ≤ s.length) && (shut s && !gem s) then single s else r
theorem en_ending {p1:Nat} (hr:(e ++ s).length < 1000):Gives (cl (n+5) 22 [.at .me] (mkR (e ++ s) s.length s.length (e ++ s).length p1 p2 f8)) (lessEn p1 (e ++ s) s) p1 p2 f8:=by
  rw [cl_at (F:=⟨1,_,c_r_en_ending⟩) rfl rfl]
  unfold lessEn
  have h2:=T_R1 (n:=n+3) (r:=e ++ s) (c:=s.length) (b:=s.length) (k:=(e ++ s).length) (p1:=p1) (p2:=p2) (f8:=f8) (loc:=[none]) rfl
  by_cases hp:p1 ≤ s.length
  · rw [decide_eq_true hp,Bool.true_and]
    have e1:evB tabs (cl (n+4)) 1000 c_r_en_ending ⟨[some (.at .me),none],mkR (e ++ s) s.length s.length (e ++ s).length p1 p2 f8⟩ = _:=(B_skip (T_val h2 (not_dec (int_le hp)))).trans (B_next (S_v rfl))
    cases hsh:shut s with
    | false=>
      obtain ⟨c,h3⟩:=T_shut' (n:=n+3) (e:=e) (s:=s) (b:=s.length) (k:=(e ++ s).length) (p1:=p1) (p2:=p2) (f8:=f8) (loc:=[vI (((e ++ s).length:Int) - s.length)]) hr rfl (v:=true) (by rw [hsh];rfl)
      exact Gives.of (e1.trans (B_quit h3))
    | true=>
      obtain ⟨c,h3⟩:=T_shut' (n:=n+3) (e:=e) (s:=s) (b:=s.length) (k:=(e ++ s).length) (p1:=p1) (p2:=p2) (f8:=f8) (loc:=[vI (((e ++ s).length:Int) - s.length)]) hr rfl (v:=false) (by rw [hsh];rfl)
      have h5:=eq_R (n:=n+3) (e:=e) (s:=s) (b:=s.length) (k:=(e ++ s).length) (p1:=p1) (p2:=p2) (f8:=f8) (y:=[103,101,109]) hr (by decide)
      have h6:evT tabs (cl (n+4)) (.not (.callM 0 7 (.cons (.str ⟨#[103,101,109]⟩) .nil))) ⟨[some (.at .me),vI (((e ++ s).length:Int) - s.length)],mkR (e ++ s) s.length s.length (e ++ s).length p1 p2 f8⟩ = _:=T_notc (E_callM (i:=0) rfl A_str rfl rfl h5)
      rw [show [103,101,109].reverse.isPrefixOf s = gem s from rfl] at h6
      have e2:=e1.trans ((B_skip h3).trans (B_next (S_cb rfl)))
      cases hg:gem s with
      | true=>
        rw [hg] at h6
        exact Gives.of (e2.trans (B_ret (S_try ((B_skip h6).trans ret_false) (fun j q=>nomatch q))))
      | false=>
        rw [hg] at h6
        obtain ⟨c',b',k',h4⟩:=undouble (n:=n) (r:=s) (b:=s.length) (k:=s.length) (p1:=p1) (p2:=p2) (f8:=f8) (Nat.lt_of_le_of_lt (by rw [List.length_append];exact Nat.le_add_left ..) hr)
        exact Gives.of (e2.trans ((B_next (S_tryx (B_lab h6))).trans ((B_next (S_expr (E_callM (i:=0) rfl A_nil rfl rfl (del_R (n:=n+1) (e:=e) (s:=s) hr)))).trans (B_ret (S_ret (E_callM rfl A_nil rfl rfl h4) rfl)))))
  · rw [decide_eq_false hp,Bool.false_and]
    exact Gives.of (B_quit (T_val h2 (not_decf (int_nle hp))))
end Mine
namespace Mine
noncomputable def Tr (j:Nat) (o:Option (AS × Out)) (L:List (Option AV)) (r:List Nat) (p1 p2:Int) (f8:Option Atom):Prop:=
  ∃ c b k:Int,o = some (⟨L,mkR r c b k p1 p2 f8⟩,.next) ∨ o = some (⟨L,mkR r c b k p1 p2 f8⟩,.exc j)
theorem Tr.to {j:Nat} {o o':Option (AS × Out)} {L:List (Option AV)} {r:List Nat} {p1 p2:Int} {f8:Option Atom} (h:o = o') (k:Tr j o' L r p1 p2 f8):Tr j o L r p1 p2 f8:=h▸k
theorem Tr.nx {j:Nat} {L:List (Option AV)} {r:List Nat} {p1 p2:Int} {f8:Option Atom} {c b k:Int}:Tr j (some (⟨L,mkR r c b k p1 p2 f8⟩,.next)) L r p1 p2 f8:=⟨c,b,k,.inl rfl⟩
theorem Tr.ex {j:Nat} {L:List (Option AV)} {r:List Nat} {p1 p2:Int} {f8:Option Atom} {c b k:Int}:Tr j (some (⟨L,mkR r c b k p1 p2 f8⟩,.exc j)) L r p1 p2 f8:=⟨c,b,k,.inr rfl⟩
section
variable {Γ:Call} {N:Nat} {σ:AS}
theorem Tr.try {j:Nat} {B:CB} {L:List (Option AV)} {r:List Nat} {p1 p2:Int} {f8:Option Atom} (h:Tr j (evB tabs Γ N B σ) L r p1 p2 f8):∃ c b k:Int,evS tabs Γ N (.try j B) σ = some (⟨L,mkR r c b k p1 p2 f8⟩,.next):=by
  obtain ⟨c,b,k,h | h⟩:=h
  · exact ⟨c,b,k,S_try h (by intro j q;cases q)⟩
  · exact ⟨c,b,k,S_tryx h⟩
end
theorem T_shutj' {n:Nat} {e s:List Nat} {b k p1 p2:Int} {f8:Option Atom} {loc:List (Option AV)} (hs:(e ++ s).length < 1000) (ho:hasOwn ⟨some (.at .me) :: loc,mkR (e ++ s) s.length b k p1 p2 f8⟩ = false):∃ c:Nat,c ≤ s.length∧evT tabs (cl (n+1)) (.not (.callM 0 6 (.cons (.cattr (.ofString "g_v_j")) .nil))) ⟨some (.at .me) :: loc,mkR (e ++ s) s.length b k p1 p2 f8⟩ = some (!shutj s,mkR (e ++ s) c b k p1 p2 f8):=by
  cases s with
  | nil=>exact ⟨0,Nat.le_refl _,T_not ((E_callM rfl (A_cattr at_vj) rfl ho out_R_nil))⟩
  | cons x s=>
    refine ⟨(if inSet 232 x = true then (x :: s).length else s.length:Nat),?_,(T_not ((E_callM rfl (A_cattr at_vj) rfl ho (out_R (by rfl) hs)))).trans ?_⟩
    · split<;>simp
    rw [set232];rfl
theorem del_R' {n:Nat} {e s:List Nat} {p1 p2:Int} {f8:Option Atom} {c:Nat} (he:e ≠ []) (hc:c ≤ s.length) (h:(e ++ s).length < 1000):cl (n+3) 12 [.at .me] (mkR (e ++ s) c s.length (e ++ s).length p1 p2 f8) = some (.at (.cst .none),mkR s c s.length s.length p1 p2 f8):=by
  have:=slice_del_spec (n:=n) (l:=(e ++ s).reverse) (lb:=0) (f6:=aI p1) (f7:=aI p2) (f8:=f8) (c:=c) (b:=s.length) (k:=(e ++ s).reverse.length) (by rw [List.length_reverse];exact h) (by simp) (Nat.le_refl _)
  rw [take_es] at this
  rw [List.drop_length,List.append_nil] at this
  simp only [List.length_reverse] at this
  refine this.trans ?_
  have h0:0 < e.length:=List.length_pos_iff.mpr he
  have h1:moved c s.length (e ++ s).length (0 - (((e ++ s).length:Int) - s.length)) = c:=by
    unfold moved;simp only [List.length_append]
    split
    · omega
    · split
      · omega
      · rfl
  have h2:((e ++ s).length:Int)+(0 - (((e ++ s).length:Int) - s.length)) = s.length:=by omega
  rw [h1,h2]
theorem pre_ex {e r:List Nat} (h:e.isPrefixOf r = true):∃ s,r = e ++ s:=by
  obtain ⟨s,hs⟩:=List.isPrefixOf_iff_prefix.mp h
  exact ⟨s,hs.symm⟩
theorem end3_split (r:List Nat):∃ e s,r = e ++ s∧(end3 r).1 = e.length∧((end3 r).2 = 0 ∨ (e ≠ []∧((end3 r).2 = 1 ∨ (end3 r).2 = 2 ∨ (end3 r).2 = 3))):=by
  unfold end3
  split
  · rename_i h;obtain ⟨s,rfl⟩:=pre_ex h;exact ⟨_,s,rfl,rfl,.inr ⟨by simp,by simp⟩⟩
  split
  · rename_i h;obtain ⟨s,rfl⟩:=pre_ex h;exact ⟨_,s,rfl,rfl,.inr ⟨by simp,by simp⟩⟩
  split
  · rename_i h;obtain ⟨s,rfl⟩:=pre_ex h;exact ⟨_,s,rfl,rfl,.inr ⟨by simp,by simp⟩⟩
  split
  · rename_i h;obtain ⟨s,rfl⟩:=pre_ex h;exact ⟨_,s,rfl,rfl,.inr ⟨by simp,by simp⟩⟩
  split
  · rename_i h;obtain ⟨s,rfl⟩:=pre_ex h;exact ⟨_,s,rfl,rfl,.inr ⟨by simp,by simp⟩⟩
  exact ⟨[],r,rfl,rfl,.inl rfl⟩
theorem end4_split (r:List Nat):∃ e s,r = e ++ s∧(end4 r).1 = e.length∧((end4 r).2 = 0 ∨ (e ≠ []∧((end4 r).2 = 1 ∨ (end4 r).2 = 2 ∨ (end4 r).2 = 3 ∨ (end4 r).2 = 4 ∨ (end4 r).2 = 5))):=by
  unfold end4
  split
  · rename_i h;obtain ⟨s,rfl⟩:=pre_ex h;exact ⟨_,s,rfl,rfl,.inr ⟨by simp,by simp⟩⟩
  split
  · rename_i h;obtain ⟨s,rfl⟩:=pre_ex h;exact ⟨_,s,rfl,rfl,.inr ⟨by simp,by simp⟩⟩
  split
  · rename_i h;obtain ⟨s,rfl⟩:=pre_ex h;exact ⟨_,s,rfl,rfl,.inr ⟨by simp,by simp⟩⟩
  split
  · rename_i h;obtain ⟨s,rfl⟩:=pre_ex h;exact ⟨_,s,rfl,rfl,.inr ⟨by simp,by simp⟩⟩
  split
  · rename_i h;obtain ⟨s,rfl⟩:=pre_ex h;exact ⟨_,s,rfl,rfl,.inr ⟨by simp,by simp⟩⟩
  split
  · rename_i h;obtain ⟨s,rfl⟩:=pre_ex h;exact ⟨_,s,rfl,rfl,.inr ⟨by simp,by simp⟩⟩
  exact ⟨[],r,rfl,rfl,.inl rfl⟩
noncomputable def step1 (p:Nat) (r:List Nat):List Nat:=
  if (end3 r).2 = 0 then r else if (end3 r).2 = 1 then (if p ≤ (r.drop (end3 r).1).length then [100,105,101,104] ++ r.drop (end3 r).1 else r)
  else if (end3 r).2 = 2 then lessEn p r (r.drop (end3 r).1)
  else if decide (p ≤ (r.drop (end3 r).1).length) && shutj (r.drop (end3 r).1) then r.drop (end3 r).1 else r
noncomputable abbrev kB1:CB:=(.cons (.setf 5 (.fld 1)) (.cons (.assign 2 (.callM 0 9 (.cons (.cattr (.ofString "a_3")) .nil))) (.cons (.ite (.cmp .eq (.var 2) (.int 0)) (.cons (.raise 0) .nil) .nil) (.cons (.setf 4 (.fld 1)) (.cons (.ite (.cmp .eq (.var 2) (.int 1)) (.cons (.ite (.not (.callM 0 18 .nil)) (.cons (.raise 0) .nil) .nil) (.cons (.expr (.callM 0 11 (.cons (.str ⟨#[104,101,105,100]⟩) .nil))) .nil)) (.cons (.ite (.cmp .eq (.var 2) (.int 2)) (.cons (.ite (.not (.callM 0 22 .nil)) (.cons (.raise 0) .nil) .nil) .nil) (.cons (.ite (.not (.callM 0 18 .nil)) (.cons (.raise 0) .nil) .nil) (.cons (.ite (.not (.callM 0 6 (.cons (.cattr (.ofString "g_v_j")) .nil))) (.cons (.raise 0) .nil) .nil) (.cons (.expr (.callM 0 12 .nil)) .nil)))) .nil)) .nil)))))
variable {n:Nat} {r:List Nat} {b k p2:Int} {f8:Option Atom} {p1:Nat} {N:Nat}
theorem block1 (hr:r.length < 900):∃ z:Int,Tr 0 (evB tabs (cl (n+5)) 1000 kB1 ⟨[some (.at .me),vI 0,none,none,none,none,none,none,none],mkR r r.length b k p1 p2 f8⟩) [some (.at .me),vI 0,vI z,none,none,none,none,none,none] (step1 p1 r) p1 p2 f8:=by
  obtain ⟨e,s,hes,hl,hc⟩:=end3_split r
  have hb:=bwd_R (n:=n+4) (e:=[]) (s:=r) (b:=b) (k:=r.length) (p1:=p1) (p2:=p2) (f8:=f8) (by simp;omega) tab3 (by decide) (fa_3 r)
  simp only [List.nil_append] at hb
  have h0:evE tabs (cl (n+5)) (.callM 0 9 (.cons (.cattr (.ofString "a_3")) .nil)) ⟨[some (.at .me),vI 0,none,none,none,none,none,none,none],mkR r r.length b r.length p1 p2 f8⟩ = _:=E_callM rfl (A_cattr at_a3) rfl rfl hb
  obtain ⟨z,hz⟩:∃ z,z = (end3 r).2:=⟨_,rfl⟩
  have hd:r.drop (end3 r).1 = s:=by
    rw [hl]
    conv=>lhs;rw [hes]
    rw [List.drop_left]
  have hcur:((r.length:Int) - (end3 r).1) = s.length:=by
    rw [hl]
    have:=congrArg List.length hes
    rw [List.length_append] at this
    omega
  rw [hcur,←hz] at h0
  refine ⟨z,?_⟩
  unfold step1
  rw [←hz] at hc ⊢
  rw [hd]
  obtain ⟨L,hL⟩:∃ L:List (Option AV),L = [some (.at .me),vI 0,vI z,none,none,none,none,none,none]:=⟨_,rfl⟩
  have hL2:∀ fl,(⟨L,fl⟩:AS).loc[2]? = some (vI z):=fun fl=>by rw [hL];rfl
  rw [B_next F_ket,B_next (σ':=⟨L,mkR r s.length b r.length p1 p2 f8⟩) ((S_assign h0 rfl rfl).trans (by rw [hL];rfl)),←hL]
  rcases hc with h | ⟨hne,hc⟩
  · rw [if_pos h]
    subst h
    rw [B_lab (T_yes (hL2 _))]
    exact Tr.ex
  rcases hc with h | h | h
  · subst h
    rw [B_skip (T_no (hL2 _) (by decide))]
    subst hL
    rw [B_next F_bra]
    have h2:=T_R1 (n:=n+4) (r:=r) (c:=s.length) (b:=s.length) (k:=r.length) (p1:=p1) (p2:=p2) (f8:=f8) (loc:=[vI 0,vI 1,none,none,none,none,none,none]) rfl
    rw [if_neg (by decide),if_pos rfl]
    by_cases hp:p1 ≤ s.length
    · rw [if_pos hp]
      rw [B_next (σ':=⟨[some (.at .me),vI 0,vI 1,none,none,none,none,none,none],mkR ([100,105,101,104] ++ s) s.length s.length ((s.length:Int)+4) p1 p2 f8⟩) ?_,B_nil]
      · exact Tr.nx
      refine (S_true (T_yes rfl)).trans ((B_skip (T_val h2 (by simp [hp]))).trans ?_)
      have hf:=from_R (n:=n+3) (e:=e) (s:=s) (p1:=p1) (p2:=p2) (f8:=f8) (y:=[104,101,105,100]) hne (by rw [←hes];simp;omega)
      rw [←hes] at hf
      exact (B_next (S_expr (E_callM rfl A_str rfl rfl hf))).trans B_nil
    · rw [if_neg hp]
      rw [B_exc ((S_true (T_yes rfl)).trans (B_lab (T_val h2 (by simp [hp]))))]
      exact Tr.ex
  · subst h
    rw [B_skip (T_no (hL2 _) (by decide))]
    subst hL
    rw [B_next F_bra]
    rw [if_neg (by decide),if_neg (by decide),if_pos rfl]
    obtain ⟨v,c',b',k',he⟩:=en_ending (n:=n) (e:=e) (s:=s) (p1:=p1) (p2:=p2) (f8:=f8) (by rw [←hes];omega)
    rw [←hes] at he
    have h3:evT tabs (cl (n+5)) (.not (.callM 0 22 .nil)) ⟨[some (.at .me),vI 0,vI 2,none,none,none,none,none,none],mkR r s.length s.length r.length p1 p2 f8⟩ = some (!v,mkR (lessEn p1 r s) c' b' k' p1 p2 f8):=T_not ((E_callM rfl A_nil rfl rfl he))
    cases v with
    | true=>
      rw [B_next ((S_false (T_no rfl (by decide))).trans ((B_next ((S_true (T_yes rfl)).trans ((B_skip h3).trans B_nil))).trans B_nil)),B_nil]
      exact Tr.nx
    | false=>
      rw [B_exc ((S_false (T_no rfl (by decide))).trans (B_exc ((S_true (T_yes rfl)).trans (B_lab h3))))]
      exact Tr.ex
  · subst h
    rw [B_skip (T_no (hL2 _) (by decide))]
    subst hL
    rw [B_next F_bra]
    have h2:=T_R1 (n:=n+4) (r:=r) (c:=s.length) (b:=s.length) (k:=r.length) (p1:=p1) (p2:=p2) (f8:=f8) (loc:=[vI 0,vI 3,none,none,none,none,none,none]) rfl
    rw [if_neg (by decide),if_neg (by decide),if_neg (by decide)]
    by_cases hp:p1 ≤ s.length
    · obtain ⟨c,hc,h3⟩:=T_shutj' (n:=n+4) (e:=e) (s:=s) (b:=s.length) (k:=r.length) (p1:=p1) (p2:=p2) (f8:=f8) (loc:=[vI 0,vI 3,none,none,none,none,none,none]) (by rw [←hes];omega) rfl
      rw [←hes] at h3
      cases hsh:shutj s with
      | false=>
        rw [hsh] at h3
        rw [B_exc ((S_false (T_no rfl (by decide))).trans (B_exc ((S_false (T_no rfl (by decide))).trans ((B_skip (T_val h2 (by simp [hp]))).trans (B_lab h3)))))]
        simp only [Bool.and_false,Bool.false_eq_true,if_false]
        exact Tr.ex
      | true=>
        rw [hsh] at h3
        have hdel:=del_R' (n:=n+2) (e:=e) (s:=s) (c:=c) (p1:=p1) (p2:=p2) (f8:=f8) hne hc (by rw [←hes];omega)
        rw [←hes] at hdel
        rw [B_next ((S_false (T_no rfl (by decide))).trans ((B_next ((S_false (T_no rfl (by decide))).trans ((B_skip (T_val h2 (by simp [hp]))).trans ((B_skip h3).trans ((B_next (S_expr (E_callM rfl A_nil rfl rfl hdel))).trans B_nil))))).trans B_nil)),B_nil]
        rw [if_pos (by simp [hp])]
        exact Tr.nx
    · rw [B_exc ((S_false (T_no rfl (by decide))).trans (B_exc ((S_false (T_no rfl (by decide))).trans (B_lab (T_val h2 (by simp [hp]))))))]
      rw [if_neg (by simp [hp])]
      exact Tr.ex
end Mine
namespace Mine
variable {n:Nat} {r e s:List Nat} {b k p2:Int} {f8:Option Atom} {p1:Nat} {N:Nat} {loc:List (Option AV)} {Γ:Call}
noncomputable abbrev lastIs (y j1 j0:Nat):CS:=.try j1 (.cons (.ite (.or (.cons (.cmp .le (.fld 1) (.fld 3)) (.cons (.cmp .ne (.idx (.fld 0) (.bin .sub (.fld 1) (.int 1))) (.str ⟨#[y]⟩)) .nil))) (.cons (.raise j1) .nil) .nil) (.cons (.augf 1 .sub (.int 1)) (.cons (.raise j0) .nil)))
theorem last_no {y j1 j0:Nat} {p1:Int} (hs:(e ++ s).length < 1000) (hy:s.head? ≠ some y):evS tabs Γ N (lastIs y j1 j0) ⟨some (.at .me) :: loc,mkR (e ++ s) s.length b k p1 p2 f8⟩ = some (⟨some (.at .me) :: loc,mkR (e ++ s) s.length b k p1 p2 f8⟩,.next):=
  S_tryx (B_lab (T_val (T_last hs) (by simpa using hy)))
theorem last_yes {y j1 j0:Nat} {p1:Int} (hs:(e ++ s).length < 1000) (hy:s.head? = some y) (hj:¬ labA j0 = labA j1):evS tabs Γ N (lastIs y j1 j0) ⟨some (.at .me) :: loc,mkR (e ++ s) s.length b k p1 p2 f8⟩ = some (⟨some (.at .me) :: loc,mkR (e ++ s) ((s.length:Int) - 1) b k p1 p2 f8⟩,.exc j0):=
  S_tryp ((B_skip (T_val (T_last hs) (by simp [hy]))).trans ((B_next F_dec).trans B_raise)) hj
theorem T_eqs {n:Nat} {p1:Int} {y:List Nat} {x:Str} (hx:x = tx y) (hs:(e ++ s).length < 1000) (hy:y.length < 1000) (ho:hasOwn ⟨some (.at .me) :: loc,mkR (e ++ s) s.length b k p1 p2 f8⟩ = false):evT tabs (cl (n+1)) (.not (.callM 0 7 (.cons (.str x) .nil))) ⟨some (.at .me) :: loc,mkR (e ++ s) s.length b k p1 p2 f8⟩ =
    some (!y.reverse.isPrefixOf s,mkR (e ++ s) (if y.reverse.isPrefixOf s then (s.length:Int) - y.length else s.length) b k p1 p2 f8):=by
  subst hx
  exact T_not ((E_callM rfl A_str rfl ho (eq_R hs hy)))
noncomputable def step3 (p q:Nat) (r:List Nat):List Nat:=
  if [100,105,101,104].isPrefixOf r then (if decide (q ≤ (r.drop 4).length) && (r.drop 4).head? != some 99 then (if [110,101].isPrefixOf (r.drop 4) then lessEn p (r.drop 4) (r.drop 6) else r.drop 4) else r) else r
noncomputable abbrev kB3:CB:=(.cons (.setf 5 (.fld 1)) (.cons (.ite (.not (.callM 0 7 (.cons (.str ⟨#[104,101,105,100]⟩) .nil))) (.cons (.raise 0) .nil) .nil) (.cons (.setf 4 (.fld 1)) (.cons (.ite (.not (.callM 0 19 .nil)) (.cons (.raise 0) .nil) .nil) (.cons (lastIs 99 1 0) (.cons (.expr (.callM 0 12 .nil)) (.cons (.setf 5 (.fld 1)) (.cons (.ite (.not (.callM 0 7 (.cons (.str ⟨#[101,110]⟩) .nil))) (.cons (.raise 0) .nil) .nil) (.cons (.setf 4 (.fld 1)) (.cons (.ite (.not (.callM 0 22 .nil)) (.cons (.raise 0) .nil) .nil) .nil))))))))))
theorem block3 {q:Nat} (hr:r.length < 900) (ho:∀ fl,hasOwn ⟨some (.at .me) :: loc,fl⟩ = false):Tr 0 (evB tabs (cl (n+5)) 1000 kB3 ⟨some (.at .me) :: loc,mkR r r.length b k p1 q f8⟩) (some (.at .me) :: loc) (step3 p1 q r) p1 q f8:=by
  rw [B_next F_ket]
  have h1:=T_eqs (n:=n+4) (e:=[]) (s:=r) (b:=b) (k:=r.length) (p1:=p1) (p2:=q) (f8:=f8) (loc:=loc) (x:=⟨#[104,101,105,100]⟩) (y:=[104,101,105,100]) rfl (by simp;omega) (by decide) (ho _)
  simp only [List.nil_append] at h1
  have hrv:[104,101,105,100].reverse = [100,105,101,104]:=rfl
  rw [hrv] at h1
  unfold step3
  cases hp:[100,105,101,104].isPrefixOf r with
  | false=>
    rw [hp] at h1
    rw [B_lab h1]
    exact Tr.ex
  | true=>
    rw [hp] at h1
    rw [B_skip h1]
    obtain ⟨s,hs⟩:=pre_ex hp
    have hd:r.drop 4 = s:=by rw [hs];rfl
    have hd6:r.drop 6 = s.drop 2:=by rw [hs];rfl
    have hcur:(if true then (r.length:Int) - [104,101,105,100].length else r.length) = s.length:=by rw [hs];simp;omega
    have hlen:s.length < 896:=by have:=congrArg List.length hs;simp at this;omega
    rw [hcur,hd,hd6,if_pos rfl]
    rw [B_next F_bra]
    have h2:=T_R2 (n:=n+4) (r:=r) (c:=s.length) (b:=s.length) (k:=r.length) (p1:=p1) (p2:=q) (f8:=f8) (loc:=loc) (ho _)
    by_cases hq:q ≤ s.length
    · rw [B_skip (T_val h2 (by simp [hq]))]
      by_cases hc:s.head? = some 99
      · have h3:=last_yes (Γ:=cl (n+5)) (N:=1000) (e:=[100,105,101,104]) (s:=s) (b:=s.length) (k:=r.length) (p1:=p1) (p2:=q) (f8:=f8) (loc:=loc) (y:=99) (j1:=1) (j0:=0) (by simp;omega) hc (by decide)
        rw [←hs] at h3
        rw [B_exc h3,if_neg (by simp [hc])]
        exact Tr.ex
      · have h3:=last_no (Γ:=cl (n+5)) (N:=1000) (e:=[100,105,101,104]) (s:=s) (b:=s.length) (k:=r.length) (p1:=p1) (p2:=q) (f8:=f8) (loc:=loc) (y:=99) (j1:=1) (j0:=0) (by simp;omega) hc
        rw [←hs] at h3
        rw [B_next h3,if_pos (by simp [hc,hq])]
        have hdel:=del_R (n:=n+2) (e:=[100,105,101,104]) (s:=s) (p1:=p1) (p2:=q) (f8:=f8) (by simp;omega)
        rw [←hs] at hdel
        rw [B_next (S_expr (E_callM rfl A_nil rfl (ho _) hdel))]
        rw [B_next F_ket]
        have h4:=T_eqs (n:=n+4) (e:=[]) (s:=s) (b:=s.length) (k:=s.length) (p1:=p1) (p2:=q) (f8:=f8) (loc:=loc) (x:=⟨#[101,110]⟩) (y:=[101,110]) rfl (by simp;omega) (by decide) (ho _)
        simp only [List.nil_append] at h4
        have hrv2:[101,110].reverse = [110,101]:=rfl
        rw [hrv2] at h4
        cases hp2:[110,101].isPrefixOf s with
        | false=>
          rw [hp2] at h4
          rw [B_lab h4]
          exact Tr.ex
        | true=>
          rw [hp2] at h4
          rw [B_skip h4]
          obtain ⟨t,ht⟩:=pre_ex hp2
          have hd2:s.drop 2 = t:=by rw [ht];rfl
          have hcur2:(if true then (s.length:Int) - [101,110].length else s.length) = t.length:=by rw [ht];simp;omega
          rw [hcur2,hd2,if_pos rfl,B_next F_bra]
          obtain ⟨v,c',b',k',he⟩:=en_ending (n:=n) (e:=[110,101]) (s:=t) (p1:=p1) (p2:=q) (f8:=f8) (by rw [←ht];omega)
          rw [←ht] at he
          have h5:evT tabs (cl (n+5)) (.not (.callM 0 22 .nil)) ⟨some (.at .me) :: loc,mkR s t.length t.length s.length p1 q f8⟩ = some (!v,mkR (lessEn p1 s t) c' b' k' p1 q f8):=T_not ((E_callM rfl A_nil rfl (ho _) he))
          cases v with
          | true=>rw [B_skip h5,B_nil];exact Tr.nx
          | false=>rw [B_lab h5];exact Tr.ex
    · rw [B_lab (T_val h2 (by simp [hq])),if_neg (by simp [hq])]
      exact Tr.ex
noncomputable def dblV (s:List Nat):Bool:=(end5 s).2 != 0
noncomputable def step5:List Nat→List Nat
  | x :: a :: t=>if !isVI x && (dblV (a :: t) && shut (t.drop 1)) then x :: t else x :: a :: t
  | r=>r
theorem end5_split (r:List Nat):(∃ a s,r = a :: a :: s∧end5 r = (2,-1)) ∨ end5 r = (0,0):=by
  unfold end5
  split
  · rename_i h;obtain ⟨s,rfl⟩:=pre_ex h;exact .inl ⟨_,s,rfl,rfl⟩
  split
  · rename_i h;obtain ⟨s,rfl⟩:=pre_ex h;exact .inl ⟨_,s,rfl,rfl⟩
  split
  · rename_i h;obtain ⟨s,rfl⟩:=pre_ex h;exact .inl ⟨_,s,rfl,rfl⟩
  split
  · rename_i h;obtain ⟨s,rfl⟩:=pre_ex h;exact .inl ⟨_,s,rfl,rfl⟩
  exact .inr rfl
noncomputable abbrev kB5:CB:=(.cons (.ite (.not (.callM 0 6 (.cons (.cattr (.ofString "g_v_I")) .nil))) (.cons (.raise 0) .nil) .nil) (.cons (.assign 8 (.bin .sub (.fld 2) (.fld 1))) (.cons (.ite (.cmp .eq (.callM 0 9 (.cons (.cattr (.ofString "a_5")) .nil)) (.int 0)) (.cons (.raise 0) .nil) .nil) (.cons (.ite (.not (.callM 0 6 (.cons (.cattr (.ofString "g_v")) .nil))) (.cons (.raise 0) .nil) .nil) (.cons (.setf 1 (.bin .sub (.fld 2) (.var 8))) (.cons (.setf 5 (.fld 1)) (.cons (.ite (.cmp .le (.fld 1) (.fld 3)) (.cons (.raise 0) .nil) .nil) (.cons (.augf 1 .sub (.int 1)) (.cons (.setf 4 (.fld 1)) (.cons (.expr (.callM 0 12 .nil)) .nil))))))))))
theorem del_mid {x a:Nat} {t:List Nat} {p1:Int} (h:t.length < 900):cl (n+3) 12 [.at .me] (mkR (x :: a :: t) t.length t.length ((t.length:Int)+1) p1 p2 f8) = some (.at (.cst .none),mkR (x :: t) t.length t.length t.length p1 p2 f8):=by
  have:=slice_del_spec (n:=n) (l:=(x :: a :: t).reverse) (lb:=0) (f6:=aI p1) (f7:=aI p2) (f8:=f8) (c:=t.length) (b:=t.length) (k:=t.length+1) (by rw [List.length_reverse];simp;omega) (by simp) (by simp)
  have e1:((x :: a :: t).reverse).take t.length = t.reverse:=take_es [x,a] t
  have e2:((x :: a :: t).reverse).drop (t.length+1) = [x]:=drop_es [x] (a :: t)
  rw [e1,e2] at this
  have e3:t.reverse ++ [x] = (x :: t).reverse:=by simp
  rw [e3] at this
  simp only [List.length_reverse] at this
  have h1:moved t.length t.length (t.length+1) (0 - (((t.length+1:Nat):Int) - t.length)) = t.length:=by
    unfold moved
    rw [if_neg (by omega),if_neg (by omega)]
  have h2:((x :: a :: t).length:Int)+(0 - (((t.length+1:Nat):Int) - t.length)) = (x :: t).length:=by simp only [List.length_cons];omega
  rw [h1,h2] at this
  exact this
theorem block5 {x2 x6:Option AV} (o2:okv x2 = true) (o6:okv x6 = true) {p1:Int} (hr:r.length < 900):∃ x8,okv x8 = true∧Tr 0 (evB tabs (cl (n+5)) 1000 kB5 ⟨[some (.at .me),vI 0,x2,vI 0,vI 0,vI 0,x6,vI 0,none],mkR r r.length b k p1 p2 f8⟩) [some (.at .me),vI 0,x2,vI 0,vI 0,vI 0,x6,vI 0,x8] (step5 r) p1 p2 f8:=by
  have ho:∀ fl x8,okv x8 = true→hasOwn ⟨[some (.at .me),vI 0,x2,vI 0,vI 0,vI 0,x6,vI 0,x8],fl⟩ = false:=by
    intro fl x8 o8
    simp [hasOwn_eq,o2,o6,o8]
  rcases r with _ | ⟨x,r⟩
  · refine ⟨none,rfl,?_⟩
    have h1:evT tabs (cl (n+5)) (.not (.callM 0 6 (.cons (.cattr (.ofString "g_v_I")) .nil))) ⟨[some (.at .me),vI 0,x2,vI 0,vI 0,vI 0,x6,vI 0,none],mkR [] 0 b k p1 p2 f8⟩ = some (!false,mkR [] 0 b k p1 p2 f8):=T_not ((E_callM rfl (A_cattr at_vI) rfl (ho _ none rfl) out_R_nil))
    show Tr 0 (evB tabs (cl (n+5)) 1000 kB5 ⟨[some (.at .me),vI 0,x2,vI 0,vI 0,vI 0,x6,vI 0,none],mkR [] 0 b k p1 p2 f8⟩) _ _ _ _ _
    rw [B_lab h1]
    exact Tr.ex
  have hI:=out_R (n:=n+4) (e:=[]) (s:=r) (x:=x) (a:=231) (b:=b) (k:=k) (p1:=p1) (p2:=p2) (f8:=f8) (by rfl) (by simp at hr ⊢;omega)
  simp only [List.nil_append] at hI
  rw [set231] at hI
  have h1:evT tabs (cl (n+5)) (.not (.callM 0 6 (.cons (.cattr (.ofString "g_v_I")) .nil))) ⟨[some (.at .me),vI 0,x2,vI 0,vI 0,vI 0,x6,vI 0,none],mkR (x :: r) (x :: r).length b k p1 p2 f8⟩ = _:=T_not ((E_callM rfl (A_cattr at_vI) rfl (ho _ none rfl) hI))
  cases hx:isVI x with
  | true=>
    rw [hx] at h1
    refine ⟨none,rfl,?_⟩
    rw [B_lab h1]
    have:step5 (x :: r) = x :: r:=by cases r<;>simp [step5,hx]
    rw [this]
    exact Tr.ex
  | false=>
    rw [hx] at h1
    refine ⟨vI (((x :: r).length:Int) - r.length),rfl,?_⟩
    rw [B_skip h1]
    rw [if_neg (by decide)]
    rw [B_next (σ':=⟨[some (.at .me),vI 0,x2,vI 0,vI 0,vI 0,x6,vI 0,vI (((x :: r).length:Int) - r.length)],mkR (x :: r) r.length b k p1 p2 f8⟩) (S_v (by simp [okSet_eq]))]
    have hb:=bwd_R (n:=n+4) (e:=[x]) (s:=r) (b:=b) (k:=k) (p1:=p1) (p2:=p2) (f8:=f8) (by simp at hr ⊢;omega) tab5 (by decide) (fa_5 r)
    simp only [List.cons_append,List.nil_append] at hb
    have h2:evE tabs (cl (n+5)) (.callM 0 9 (.cons (.cattr (.ofString "a_5")) .nil)) ⟨[some (.at .me),vI 0,x2,vI 0,vI 0,vI 0,x6,vI 0,vI (((x :: r).length:Int) - r.length)],mkR (x :: r) r.length b k p1 p2 f8⟩ = _:=E_callM rfl (A_cattr at_a5) rfl (ho _ _ rfl) hb
    rcases end5_split r with ⟨a,s,hrs,h5⟩ | h5
    · rw [h5] at h2
      rw [B_skip (T_cmp (fl':=mkR (x :: r) ((r.length:Int) - (2:Nat)) b k p1 p2 f8) (y:=ai 0) (v:=false) h2 rfl rfl)]
      subst hrs
      have hcur:(((a :: a :: s).length:Int) - (2:Nat)) = s.length:=by simp;omega
      rw [hcur]
      have hdv:dblV (a :: a :: s) = true:=by unfold dblV;rw [h5];rfl
      obtain ⟨c,h3⟩:=T_shut (n:=n+4) (e:=[x,a,a]) (s:=s) (b:=b) (k:=k) (p1:=p1) (p2:=p2) (f8:=f8) (loc:=[vI 0,x2,vI 0,vI 0,vI 0,x6,vI 0,vI (((x :: a :: a :: s).length:Int) - (a :: a :: s).length)]) (by simp at hr ⊢;omega) (ho _ _ rfl)
      simp only [List.cons_append,List.nil_append] at h3
      cases hsh:shut s with
      | false=>
        rw [hsh] at h3
        rw [B_lab h3]
        have:step5 (x :: a :: a :: s) = x :: a :: a :: s:=by simp [step5,hsh]
        rw [this]
        exact Tr.ex
      | true=>
        rw [hsh] at h3
        rw [B_skip h3]
        have:step5 (x :: a :: a :: s) = x :: a :: s:=by simp [step5,hsh,hx,hdv]
        rw [this]
        rw [B_next (S_cur rfl),B_next F_ket]
        have e1:(((x :: a :: a :: s).length:Int) - (((x :: a :: a :: s).length:Int) - (a :: a :: s).length)) = ((s.length+1+1:Nat):Int):=by simp only [List.length_cons];omega
        rw [e1]
        refine Tr.to (B_skip (T_le (x:=s.length+1+1) (y:=0) (decide_eq_false (Nat.not_succ_le_zero _)))) ?_
        rw [B_next F_dec,B_next F_bra]
        have e2:(((s.length+1+1:Nat):Int) - 1) = ((a :: s).length:Nat):=by simp only [List.length_cons];omega
        rw [e2]
        have hdel:=del_mid (n:=n+2) (x:=x) (a:=a) (t:=a :: s) (p1:=p1) (p2:=p2) (f8:=f8) (by simp at hr ⊢;omega)
        have e3:((s.length+1+1:Nat):Int) = ((a :: s).length:Int)+1:=by simp only [List.length_cons];omega
        rw [e3]
        exact Tr.to (B_next (S_expr (E_callM (i:=0) rfl A_nil rfl (ho _ (vI (((x :: a :: a :: s).length:Int) - (a :: a :: s).length)) rfl) hdel))) Tr.nx
    · rw [h5] at h2
      rw [B_lab (T_cmp (fl':=mkR (x :: r) ((r.length:Int) - (0:Nat)) b k p1 p2 f8) (y:=ai 0) (v:=true) h2 rfl rfl)]
      have:step5 (x :: r) = x :: r:=by
        cases r with
        | nil=>rfl
        | cons a t=>simp [step5,dblV,h5]
      rw [this]
      exact Tr.ex
end Mine
namespace Mine
variable {n:Nat} {r e s:List Nat} {b k p2:Int} {f8:Option Atom} {p1:Nat} {N:Nat} {loc:List (Option AV)} {Γ:Call}
noncomputable def igOk (q:Nat) (s:List Nat):Bool:=[103,105].isPrefixOf s && (decide (q ≤ (s.drop 2).length) && (s.drop 2).head? != some 101)
noncomputable abbrev kIg:CB:=(.cons (.setf 5 (.fld 1)) (.cons (.ite (.not (.callM 0 7 (.cons (.str ⟨#[105,103]⟩) .nil))) (.cons (.raise 1) .nil) .nil) (.cons (.setf 4 (.fld 1)) (.cons (.ite (.not (.callM 0 19 .nil)) (.cons (.raise 1) .nil) .nil) (.cons (lastIs 101 2 1) (.cons (.expr (.callM 0 12 .nil)) (.cons .brk .nil)))))))
theorem ig_no {q:Nat} {p1:Int} (hs:s.length < 900) (ho:∀ fl,hasOwn ⟨some (.at .me) :: loc,fl⟩ = false) (h:igOk q s = false):∃ c b' k':Int,evB tabs (cl (n+5)) 1000 kIg ⟨some (.at .me) :: loc,mkR s s.length b k p1 q f8⟩ = some (⟨some (.at .me) :: loc,mkR s c b' k' p1 q f8⟩,.exc 1):=by
  rw [B_next F_ket]
  have h1:=T_eqs (n:=n+4) (e:=[]) (s:=s) (b:=b) (k:=s.length) (p1:=p1) (p2:=q) (f8:=f8) (loc:=loc) (x:=⟨#[105,103]⟩) (y:=[105,103]) rfl (by simp;omega) (by decide) (ho _)
  simp only [List.nil_append] at h1
  have hrv:[105,103].reverse = [103,105]:=rfl
  rw [hrv] at h1
  unfold igOk at h
  cases hp:[103,105].isPrefixOf s with
  | false=>
    rw [hp] at h1
    exact ⟨_,_,_,B_lab h1⟩
  | true=>
    rw [hp] at h1 h
    rw [B_skip h1]
    obtain ⟨t,hs'⟩:=pre_ex hp
    have hd:s.drop 2 = t:=by rw [hs'];rfl
    have hcur:(if true then (s.length:Int) - [105,103].length else s.length) = t.length:=by rw [hs'];simp;omega
    rw [hd] at h
    rw [hcur,B_next F_bra]
    have h2:=T_R2 (n:=n+4) (r:=s) (c:=t.length) (b:=t.length) (k:=s.length) (p1:=p1) (p2:=q) (f8:=f8) (loc:=loc) (ho _)
    by_cases hq:q ≤ t.length
    · rw [B_skip (T_val h2 (by simp [hq]))]
      have hc:t.head? = some 101:=by simpa [hq] using h
      have hlen:t.length < 898:=by have:=congrArg List.length hs';simp at this;omega
      have h3:=last_yes (Γ:=cl (n+5)) (N:=1000) (e:=[103,105]) (s:=t) (b:=t.length) (k:=s.length) (p1:=p1) (p2:=q) (f8:=f8) (loc:=loc) (y:=101) (j1:=2) (j0:=1) (by simp;omega) hc (by decide)
      rw [←hs'] at h3
      exact ⟨_,_,_,B_exc h3⟩
    · exact ⟨_,_,_,B_lab (T_val h2 (by simp [hq]))⟩
theorem ig_yes {q:Nat} {p1:Int} (hs:s.length < 900) (ho:∀ fl,hasOwn ⟨some (.at .me) :: loc,fl⟩ = false) (h:igOk q s = true):∃ c b' k':Int,evB tabs (cl (n+5)) 1000 kIg ⟨some (.at .me) :: loc,mkR s s.length b k p1 q f8⟩ = some (⟨some (.at .me) :: loc,mkR (s.drop 2) c b' k' p1 q f8⟩,.brk):=by
  rw [B_next F_ket]
  have h1:=T_eqs (n:=n+4) (e:=[]) (s:=s) (b:=b) (k:=s.length) (p1:=p1) (p2:=q) (f8:=f8) (loc:=loc) (x:=⟨#[105,103]⟩) (y:=[105,103]) rfl (by simp;omega) (by decide) (ho _)
  simp only [List.nil_append] at h1
  have hrv:[105,103].reverse = [103,105]:=rfl
  rw [hrv] at h1
  unfold igOk at h
  obtain ⟨hp,h⟩:=Bool.and_eq_true_iff.mp h
  obtain ⟨hq,h⟩:=Bool.and_eq_true_iff.mp h
  rw [hp] at h1
  rw [B_skip h1]
  obtain ⟨t,hs'⟩:=pre_ex hp
  have hd:s.drop 2 = t:=by rw [hs'];rfl
  have hcur:(if true then (s.length:Int) - [105,103].length else s.length) = t.length:=by rw [hs'];simp;omega
  rw [hd] at h hq ⊢
  rw [hcur,B_next F_bra]
  have h2:=T_R2 (n:=n+4) (r:=s) (c:=t.length) (b:=t.length) (k:=s.length) (p1:=p1) (p2:=q) (f8:=f8) (loc:=loc) (ho _)
  have hq':q ≤ t.length:=by simpa using hq
  have hc:t.head? ≠ some 101:=by simpa using h
  rw [B_skip (T_val h2 (by simp [hq']))]
  have hlen:t.length < 898:=by have:=congrArg List.length hs';simp at this;omega
  have h3:=last_no (Γ:=cl (n+5)) (N:=1000) (e:=[103,105]) (s:=t) (b:=t.length) (k:=s.length) (p1:=p1) (p2:=q) (f8:=f8) (loc:=loc) (y:=101) (j1:=2) (j0:=1) (by simp;omega) hc
  rw [←hs'] at h3
  rw [B_next h3]
  have hdel:=del_R (n:=n+2) (e:=[103,105]) (s:=t) (p1:=p1) (p2:=q) (f8:=f8) (by simp;omega)
  rw [←hs'] at hdel
  rw [B_next (S_expr (E_callM rfl A_nil rfl (ho _) hdel))]
  exact ⟨_,_,_,B_brk S_brk⟩
noncomputable abbrev kW:CB:=(.cons (.assign 6 (.bin .sub (.fld 2) (.fld 1))) (.cons (.try 1 kIg) (.cons (.setf 1 (.bin .sub (.fld 2) (.var 6))) (.cons (.ite (.not (.callM 0 20 .nil)) (.cons (.raise 0) .nil) .nil) (.cons .brk .nil)))))
noncomputable abbrev Lw (x2 x6:Option AV):List (Option AV):=[some (.at .me),vI 0,x2,vI 0,vI 0,vI 0,x6,none,none]
theorem own_Lw {x2 x6:Option AV} (o2:okv x2 = true) (o6:okv x6 = true) (fl:FL):hasOwn ⟨Lw x2 x6,fl⟩ = false:=by simp [hasOwn_eq,o2,o6]
noncomputable def step4a (q:Nat) (s:List Nat):List Nat:=if igOk q s then s.drop 2 else single s
theorem whl {q:Nat} {p1:Int} {z:Int} (hs:s.length < 900):Tr 0 (evS tabs (cl (n+5)) 1000 (.while (.bool true) kW) ⟨Lw (vI z) none,mkR s s.length b k p1 q f8⟩) (Lw (vI z) (vI 0)) (step4a q s) p1 q f8:=by
  rw [S_while]
  have h1:evS tabs (cl (n+5)) 1000 (.assign 6 (.bin .sub (.fld 2) (.fld 1))) ⟨Lw (vI z) none,mkR s s.length b k p1 q f8⟩ = some (⟨Lw (vI z) (vI 0),mkR s s.length b k p1 q f8⟩,.next):=by
    refine (S_v (by simp [okSet_eq])).trans ?_
    rw [Int.sub_self];rfl
  unfold step4a
  cases hi:igOk q s with
  | true=>
    obtain ⟨c,b',k',h2⟩:=ig_yes (n:=n) (b:=b) (k:=k) (p1:=p1) (f8:=f8) (loc:=(Lw (vI z) (vI 0)).tail) hs (own_Lw rfl rfl) hi
    rw [while_brk (t_true _) ((B_next h1).trans (B_brk (S_try h2 (by intro j h;cases h))))]
    exact Tr.nx
  | false=>
    obtain ⟨c,b',k',h2⟩:=ig_no (n:=n) (b:=b) (k:=k) (p1:=p1) (f8:=f8) (loc:=(Lw (vI z) (vI 0)).tail) hs (own_Lw rfl rfl) hi
    obtain ⟨c2,b2,k2,h4⟩:=undouble (n:=n+1) (r:=s) (b:=b') (k:=k') (p1:=p1) (p2:=q) (f8:=f8) (by omega)
    have h3:evS tabs (cl (n+5)) 1000 (.setf 1 (.bin .sub (.fld 2) (.var 6))) ⟨Lw (vI z) (vI 0),mkR s c b' k' p1 q f8⟩ = some (⟨Lw (vI z) (vI 0),mkR s s.length b' k' p1 q f8⟩,.next):=by
      refine (S_cur (z:=0) rfl).trans ?_
      rw [Int.sub_zero]
    have h5:evT tabs (cl (n+5)) (.not (.callM 0 20 .nil)) ⟨Lw (vI z) (vI 0),mkR s s.length b' k' p1 q f8⟩ = some (!dbl s,mkR (single s) c2 b2 k2 p1 q f8):=T_not ((E_callM rfl A_nil rfl (own_Lw rfl rfl _) h4))
    rw [if_neg (by decide)]
    cases hd:dbl s with
    | true=>
      rw [hd] at h5
      rw [while_brk (t_true _) ((B_next h1).trans ((B_next (S_tryx h2)).trans ((B_next h3).trans ((B_skip h5).trans (B_brk S_brk)))))]
      exact Tr.nx
    | false=>
      rw [hd] at h5
      rw [while_exc (t_true _) ((B_next h1).trans ((B_next (S_tryx h2)).trans ((B_next h3).trans (B_lab h5))))]
      exact Tr.ex
noncomputable abbrev kC1:CB:=(.cons (.ite (.not (.callM 0 19 .nil)) (.cons (.raise 0) .nil) .nil) (.cons (.expr (.callM 0 12 .nil)) (.cons (.while (.bool true) kW) .nil)))
noncomputable abbrev kC2:CB:=(.cons (.ite (.not (.callM 0 19 .nil)) (.cons (.raise 0) .nil) .nil) (.cons (lastIs 101 1 0) (.cons (.expr (.callM 0 12 .nil)) .nil)))
noncomputable abbrev kC3:CB:=(.cons (.ite (.not (.callM 0 19 .nil)) (.cons (.raise 0) .nil) .nil) (.cons (.expr (.callM 0 12 .nil)) (.cons (.ite (.not (.callM 0 21 .nil)) (.cons (.raise 0) .nil) .nil) .nil)))
noncomputable abbrev kC4:CB:=(.cons (.ite (.not (.callM 0 19 .nil)) (.cons (.raise 0) .nil) .nil) (.cons (.expr (.callM 0 12 .nil)) .nil))
noncomputable abbrev kC5:CB:=(.cons (.ite (.not (.callM 0 19 .nil)) (.cons (.raise 0) .nil) .nil) (.cons (.ite (.not (.fld 8)) (.cons (.raise 0) .nil) .nil) (.cons (.expr (.callM 0 12 .nil)) .nil)))
noncomputable abbrev kB4:CB:=(.cons (.setf 5 (.fld 1)) (.cons (.assign 2 (.callM 0 9 (.cons (.cattr (.ofString "a_4")) .nil))) (.cons (.ite (.cmp .eq (.var 2) (.int 0)) (.cons (.raise 0) .nil) .nil) (.cons (.setf 4 (.fld 1)) (.cons (.ite (.cmp .eq (.var 2) (.int 1)) kC1 (.cons (.ite (.cmp .eq (.var 2) (.int 2)) kC2 (.cons (.ite (.cmp .eq (.var 2) (.int 3)) kC3 (.cons (.ite (.cmp .eq (.var 2) (.int 4)) kC4 kC5) .nil)) .nil)) .nil)) .nil)))))
noncomputable def step4 (p q:Nat) (found:Bool) (r:List Nat):List Nat:=
  if (end4 r).2 = 0 then r else if ¬ q ≤ (r.drop (end4 r).1).length then r
  else if (end4 r).2 = 1 then step4a q (r.drop (end4 r).1)
  else if (end4 r).2 = 2 then (if (r.drop (end4 r).1).head? = some 101 then r else r.drop (end4 r).1)
  else if (end4 r).2 = 3 then (lessE p (r.drop (end4 r).1)).getD (r.drop (end4 r).1)
  else if (end4 r).2 = 4 then r.drop (end4 r).1
  else if found then r.drop (end4 r).1 else r
theorem Tr.one {j:Nat} {S:CS} {σ:AS} {L:List (Option AV)} {r:List Nat} {p1 p2:Int} {f8:Option Atom} (h:Tr j (evS tabs Γ N S σ) L r p1 p2 f8):Tr j (evB tabs Γ N (.cons S .nil) σ) L r p1 p2 f8:=by
  obtain ⟨c,b,k,h | h⟩:=h
  · exact ⟨c,b,k,.inl ((B_next h).trans B_nil)⟩
  · exact ⟨c,b,k,.inr (B_exc h)⟩
theorem Tr.ite1 {j:Nat} {t:CE} {A B:CB} {σ:AS} {fl:FL} {L:List (Option AV)} {r:List Nat} {p1 p2:Int} {f8:Option Atom} (ht:evT tabs Γ t σ = some (true,fl)) (h:Tr j (evB tabs Γ N A ⟨σ.loc,fl⟩) L r p1 p2 f8):Tr j (evS tabs Γ N (.ite t A B) σ) L r p1 p2 f8:=by
  rw [S_true ht];exact h
theorem Tr.ite0 {j:Nat} {t:CE} {A B:CB} {σ:AS} {fl:FL} {L:List (Option AV)} {r:List Nat} {p1 p2:Int} {f8:Option Atom} (ht:evT tabs Γ t σ = some (false,fl)) (h:Tr j (evB tabs Γ N B ⟨σ.loc,fl⟩) L r p1 p2 f8):Tr j (evS tabs Γ N (.ite t A B) σ) L r p1 p2 f8:=by
  rw [S_false ht];exact h
theorem block4 {q:Nat} {z0:Int} {found:Bool} (hr:r.length < 900):∃ (z:Int) (x6:Option AV) (v8:Bool),okv x6 = true∧Tr 0 (evB tabs (cl (n+6)) 1000 kB4 ⟨Lw (vI z0) none,mkR r r.length b k p1 q (aB found)⟩) (Lw (vI z) x6) (step4 p1 q found r) p1 q (aB v8):=by
  obtain ⟨e,s,hes,hl,hc⟩:=end4_split r
  have hb:=bwd_R (n:=n+5) (e:=[]) (s:=r) (b:=b) (k:=r.length) (p1:=p1) (p2:=q) (f8:=aB found) (by simp;omega) tab4 (by decide) (fa_4 r)
  simp only [List.nil_append] at hb
  have h0:evE tabs (cl (n+6)) (.callM 0 9 (.cons (.cattr (.ofString "a_4")) .nil)) ⟨Lw (vI z0) none,mkR r r.length b r.length p1 q (aB found)⟩ = _:=E_callM rfl (A_cattr at_a4) rfl rfl hb
  obtain ⟨z,hz⟩:∃ z,z = (end4 r).2:=⟨_,rfl⟩
  have hd:r.drop (end4 r).1 = s:=by
    rw [hl]
    conv=>lhs;rw [hes]
    rw [List.drop_left]
  have hlen:=congrArg List.length hes
  rw [List.length_append] at hlen
  have hcur:((r.length:Int) - (end4 r).1) = s.length:=by rw [hl];omega
  rw [hcur,←hz] at h0
  refine ⟨z,?_⟩
  unfold step4
  rw [←hz] at hc ⊢
  rw [hd]
  have e0:evB tabs (cl (n+6)) 1000 kB4 ⟨Lw (vI z0) none,mkR r r.length b k p1 q (aB found)⟩ = _:=(B_next F_ket).trans (B_next (σ':=⟨Lw (vI z) none,mkR r s.length b r.length p1 q (aB found)⟩) ((S_assign h0 rfl rfl).trans rfl))
  rw [e0]
  rcases hc with h | ⟨hne,hc⟩
  · rw [if_pos h]
    subst h
    refine ⟨none,found,rfl,?_⟩
    rw [B_lab (T_yes rfl)]
    exact Tr.ex
  have hz0:z ≠ 0:=by omega
  rw [if_neg hz0,B_skip (T_no rfl hz0),B_next F_bra]
  have h2:=T_R2 (n:=n+5) (r:=r) (c:=s.length) (b:=s.length) (k:=r.length) (p1:=p1) (p2:=q) (f8:=aB found) (loc:=(Lw (vI z) none).tail) (own_Lw rfl rfl _)
  have hdel:=del_R (n:=n+3) (e:=e) (s:=s) (p1:=p1) (p2:=q) (f8:=aB found) (by rw [←hes];omega)
  rw [←hes] at hdel
  have hdl:∀ {rest:CB},evB tabs (cl (n+6)) 1000 (.cons (.expr (.callM 0 12 .nil)) rest) ⟨Lw (vI z) none,mkR r s.length s.length r.length p1 q (aB found)⟩ = evB tabs (cl (n+6)) 1000 rest ⟨Lw (vI z) none,mkR s s.length s.length s.length p1 q (aB found)⟩:=B_next (S_expr (E_callM rfl A_nil rfl (own_Lw rfl rfl _) hdel))
  by_cases hq:q ≤ s.length
  · rw [if_neg (by simpa using hq)]
    have hR:∀ {rest:CB},evB tabs (cl (n+6)) 1000 (.cons (.ite (.not (.callM 0 19 .nil)) (.cons (.raise 0) .nil) .nil) rest) ⟨Lw (vI z) none,mkR r s.length s.length r.length p1 q (aB found)⟩ = evB tabs (cl (n+6)) 1000 rest ⟨Lw (vI z) none,mkR r s.length s.length r.length p1 q (aB found)⟩:=B_skip (T_val h2 (by simp [hq]))
    by_cases h1:z = 1
    · rw [if_pos h1]
      subst h1
      refine ⟨vI 0,found,rfl,Tr.one (Tr.ite1 (T_yes rfl) ?_)⟩
      rw [hR,hdl]
      exact Tr.one (whl (n:=n+1) (by omega))
    rw [if_neg h1]
    by_cases h2':z = 2
    · rw [if_pos h2']
      subst h2'
      refine ⟨none,found,rfl,Tr.one (Tr.ite0 (T_no rfl h1) (Tr.one (Tr.ite1 (T_yes rfl) ?_)))⟩
      rw [hR]
      by_cases hy:s.head? = some 101
      · rw [if_pos hy]
        have h3:=last_yes (Γ:=cl (n+6)) (N:=1000) (e:=e) (s:=s) (b:=s.length) (k:=r.length) (p1:=p1) (p2:=q) (f8:=aB found) (loc:=(Lw (vI 2) none).tail) (y:=101) (j1:=1) (j0:=0) (by rw [←hes];omega) hy (by decide)
        rw [←hes,show (some (AV.at Atom.me) :: (Lw (vI 2) none).tail) = Lw (vI 2) none from rfl] at h3
        rw [B_exc h3]
        exact Tr.ex
      · rw [if_neg hy]
        have h3:=last_no (Γ:=cl (n+6)) (N:=1000) (e:=e) (s:=s) (b:=s.length) (k:=r.length) (p1:=p1) (p2:=q) (f8:=aB found) (loc:=(Lw (vI 2) none).tail) (y:=101) (j1:=1) (j0:=0) (by rw [←hes];omega) hy
        rw [←hes,show (some (AV.at Atom.me) :: (Lw (vI 2) none).tail) = Lw (vI 2) none from rfl] at h3
        rw [B_next h3]
        refine (congrArg (fun o=>Tr 0 o _ _ _ _ _) hdl).mpr ?_
        rw [B_nil]
        exact Tr.nx
    rw [if_neg h2']
    by_cases h3:z = 3
    · rw [if_pos h3]
      subst h3
      obtain ⟨v,c',b',k',he⟩:=e_ending (n:=n+1) (r:=s) (b:=s.length) (k:=s.length) (p1:=p1) (p2:=q) (f8:=aB found) (by omega)
      have h5:evT tabs (cl (n+6)) (.not (.callM 0 21 .nil)) ⟨Lw (vI 3) none,mkR s s.length s.length s.length p1 q (aB found)⟩ = some (!v,mkR ((lessE p1 s).getD s) c' b' k' p1 q (aB (lessE p1 s).isSome)):=T_not ((E_callM rfl A_nil rfl (own_Lw rfl rfl _) he))
      refine ⟨none,(lessE p1 s).isSome,rfl,Tr.one (Tr.ite0 (T_no rfl h1) (Tr.one (Tr.ite0 (T_no rfl h2') (Tr.one (Tr.ite1 (T_yes rfl) ?_)))))⟩
      rw [hR,hdl]
      cases v with
      | true=>rw [B_skip h5,B_nil];exact Tr.nx
      | false=>rw [B_lab h5];exact Tr.ex
    rw [if_neg h3]
    by_cases h4:z = 4
    · rw [if_pos h4]
      subst h4
      refine ⟨none,found,rfl,Tr.one (Tr.ite0 (T_no rfl h1) (Tr.one (Tr.ite0 (T_no rfl h2') (Tr.one (Tr.ite0 (T_no rfl h3) (Tr.one (Tr.ite1 (T_yes rfl) ?_)))))))⟩
      rw [hR,hdl,B_nil]
      exact Tr.nx
    rw [if_neg h4]
    refine ⟨none,found,rfl,Tr.one (Tr.ite0 (T_no rfl h1) (Tr.one (Tr.ite0 (T_no rfl h2') (Tr.one (Tr.ite0 (T_no rfl h3) (Tr.one (Tr.ite0 (T_no rfl h4) ?_)))))))⟩
    rw [hR]
    have h6:evT tabs (cl (n+6)) (.not (.fld 8)) ⟨Lw (vI z) none,mkR r s.length s.length r.length p1 q (aB found)⟩ = some (!found,mkR r s.length s.length r.length p1 q (aB found)):=T_not ((E_fld rfl rfl))
    cases found with
    | true=>rw [B_skip h6,hdl,B_nil];exact Tr.nx
    | false=>rw [B_lab h6];exact Tr.ex
  · rw [if_pos hq]
    have hR:∀ {rest:CB},evB tabs (cl (n+6)) 1000 (.cons (.ite (.not (.callM 0 19 .nil)) (.cons (.raise 0) .nil) .nil) rest) ⟨Lw (vI z) none,mkR r s.length s.length r.length p1 q (aB found)⟩ = some (⟨Lw (vI z) none,mkR r s.length s.length r.length p1 q (aB found)⟩,.exc 0):=B_lab (T_val h2 (by simp [hq]))
    refine ⟨none,found,rfl,Tr.one ?_⟩
    by_cases h1:z = 1
    · subst h1
      refine Tr.ite1 (T_yes rfl) ?_
      rw [hR];exact Tr.ex
    refine Tr.ite0 (T_no rfl h1) (Tr.one ?_)
    by_cases h2':z = 2
    · subst h2'
      refine Tr.ite1 (T_yes rfl) ?_
      rw [hR];exact Tr.ex
    refine Tr.ite0 (T_no rfl h2') (Tr.one ?_)
    by_cases h3:z = 3
    · subst h3
      refine Tr.ite1 (T_yes rfl) ?_
      rw [hR];exact Tr.ex
    refine Tr.ite0 (T_no rfl h3) (Tr.one ?_)
    by_cases h4:z = 4
    · subst h4
      refine Tr.ite1 (T_yes rfl) ?_
      rw [hR];exact Tr.ex
    refine Tr.ite0 (T_no rfl h4) ?_
    rw [hR];exact Tr.ex
end Mine
namespace Mine
theorem single_len (r:List Nat):(single r).length ≤ r.length:=by unfold single;split<;>simp
theorem lessE_len (p:Nat) (r:List Nat):((lessE p r).getD r).length ≤ r.length:=by
  unfold lessE
  split
  · simp
  · rename_i x s
    split
    · have:=single_len s;simp only [Option.getD_some,List.length_cons];omega
    · simp
theorem lessEn_len (p:Nat) {r s:List Nat} (h:s.length ≤ r.length):(lessEn p r s).length ≤ r.length:=by
  unfold lessEn
  split
  · have:=single_len s;omega
  · exact Nat.le_refl _
theorem end3_one {r:List Nat} (h:(end3 r).2 = 1):(end3 r).1 = 5∧5 ≤ r.length:=by
  unfold end3 at h ⊢
  split at h
  · rename_i q;obtain ⟨s,rfl⟩:=pre_ex q;exact ⟨rfl,by simp⟩
  split at h
  · simp at h
  split at h
  · simp at h
  split at h
  · simp at h
  split at h
  · simp at h
  · simp at h
theorem step1_len (p:Nat) (r:List Nat):(step1 p r).length ≤ r.length:=by
  unfold step1
  split
  · exact Nat.le_refl _
  split
  · rename_i h
    obtain ⟨h1,h2⟩:=end3_one h
    split
    · simp only [List.length_append,List.length_cons,List.length_nil,List.length_drop];omega
    · exact Nat.le_refl _
  split
  · exact lessEn_len p (by simp)
  split
  · simp
  · exact Nat.le_refl _
theorem step3_len (p q:Nat) (r:List Nat):(step3 p q r).length ≤ r.length:=by
  unfold step3
  split
  · split
    · split
      · exact Nat.le_trans (lessEn_len p (by simp only [List.length_drop];omega)) (by simp)
      · simp
    · exact Nat.le_refl _
  · exact Nat.le_refl _
theorem step4_len (p q:Nat) (v:Bool) (r:List Nat):(step4 p q v r).length ≤ r.length:=by
  unfold step4 step4a
  split
  · exact Nat.le_refl _
  split
  · exact Nat.le_refl _
  split
  · split
    · simp only [List.length_drop];omega
    · exact Nat.le_trans (single_len _) (by simp)
  split
  · split
    · exact Nat.le_refl _
    · simp
  split
  · exact Nat.le_trans (lessE_len _ _) (by simp)
  split
  · simp
  split
  · simp
  · exact Nat.le_refl _
theorem step5_len (r:List Nat):(step5 r).length ≤ r.length:=by
  unfold step5
  split
  · split<;>simp
  · exact Nat.le_refl _
noncomputable def step2 (p:Nat) (r:List Nat):List Nat:=(lessE p r).getD r
noncomputable def suffix (p q:Nat) (r:List Nat):List Nat:=step5 (step4 p q (lessE p (step1 p r)).isSome (step3 p q (step2 p (step1 p r))))
theorem suffix_len (p q:Nat) (r:List Nat):(suffix p q r).length ≤ r.length:=
  Nat.le_trans (step5_len _) (Nat.le_trans (step4_len ..) (Nat.le_trans (step3_len ..) (Nat.le_trans (lessE_len ..) (step1_len ..))))
variable {n:Nat} {r:List Nat} {b k:Int} {f8:Option Atom} {p q:Nat}
theorem std_suffix (hr:r.length < 900):∃ (c b' k':Int) (v8:Bool),cl (n+7) 23 [.at .me] (mkR r r.length b k p q f8) = some (ab true,mkR (suffix p q r) c b' k' p q (aB v8)):=by
  rw [cl_at (F:=⟨1,_,c_r_standard_suffix⟩) rfl rfl]
  show ∃ (c b' k':Int) (v8:Bool),retOf (evB tabs (cl (n+6)) 1000 c_r_standard_suffix ⟨[some (.at .me),none,none,none,none,none,none,none,none],mkR r r.length b k p q f8⟩) = _
  unfold suffix step2
  obtain ⟨r1,h1⟩:∃ r1,r1 = step1 p r:=⟨_,rfl⟩
  have l1:r1.length < 900:=by have:=step1_len p r;rw [←h1] at this;omega
  obtain ⟨r2,h2⟩:∃ r2,r2 = (lessE p r1).getD r1:=⟨_,rfl⟩
  have l2:r2.length < 900:=by have:=lessE_len p r1;rw [←h2] at this;omega
  obtain ⟨r3,h3⟩:∃ r3,r3 = step3 p q r2:=⟨_,rfl⟩
  have l3:r3.length < 900:=by have:=step3_len p q r2;rw [←h3] at this;omega
  obtain ⟨r4,h4⟩:∃ r4,r4 = step4 p q (lessE p r1).isSome r3:=⟨_,rfl⟩
  have l4:r4.length < 900:=by have:=step4_len p q (lessE p r1).isSome r3;rw [←h4] at this;omega
  obtain ⟨r5,h5⟩:∃ r5,r5 = step5 r4:=⟨_,rfl⟩
  rw [←h1,←h2,←h3,←h4,←h5]
  unfold c_r_standard_suffix
  have z0:∀ x:Int,x - x = 0:=fun x=>Int.sub_self x
  have cur:∀ {L:List (Option AV)} {i:Nat} {r:List Nat} {c b k:Int} {f8:Option Atom},(some (.at .me) :: L)[i]? = some (vI 0)→evS tabs (cl (n+6)) 1000 (.setf 1 (.bin .sub (.fld 2) (.var i))) ⟨some (.at .me) :: L,mkR r c b k p q f8⟩ = some (⟨some (.at .me) :: L,mkR r r.length b k p q f8⟩,.next):=by
    intro L i r c b k f8 h
    refine (S_cur h).trans ?_
    rw [Int.sub_zero]
  have asg:∀ {L:List (Option AV)} {i:Nat} {r:List Nat} {b k:Int} {f8:Option Atom},okSet i ⟨some (.at .me) :: L,mkR r r.length b k p q f8⟩ = true→evS tabs (cl (n+6)) 1000 (.assign i (.bin .sub (.fld 2) (.fld 1))) ⟨some (.at .me) :: L,mkR r r.length b k p q f8⟩ = some (⟨(some (.at .me) :: L).set i (vI 0),mkR r r.length b k p q f8⟩,.next):=by
    intro L i r b k f8 h
    refine (S_v h).trans ?_
    rw [Int.sub_self]
  rw [B_next (σ':=⟨[some (.at .me),vI 0,none,none,none,none,none,none,none],mkR r r.length b k p q f8⟩) (asg rfl)]
  obtain ⟨z,t1⟩:=block1 (n:=n+1) (b:=b) (k:=k) (p2:=q) (f8:=f8) (p1:=p) hr
  rw [←h1] at t1
  obtain ⟨c1,b1,k1,e1⟩:=t1.try
  rw [B_next e1,B_next (cur rfl)]
  rw [B_next (σ':=⟨[some (.at .me),vI 0,vI z,vI 0,none,none,none,none,none],mkR r1 r1.length b1 k1 p q f8⟩) (asg rfl)]
  obtain ⟨v2,c2,b2,k2,e2⟩:=e_ending (n:=n+1) (b:=b1) (k:=k1) (p2:=q) (f8:=f8) (p1:=p) (r:=r1) (by omega)
  rw [←h2] at e2
  rw [B_next (S_expr (E_callM rfl A_nil rfl rfl e2)),B_next (cur rfl)]
  rw [B_next (σ':=⟨[some (.at .me),vI 0,vI z,vI 0,vI 0,none,none,none,none],mkR r2 r2.length b2 k2 p q (aB (lessE p r1).isSome)⟩) (asg rfl)]
  have t3:=block3 (n:=n+1) (b:=b2) (k:=k2) (q:=q) (f8:=aB (lessE p r1).isSome) (p1:=p) (loc:=[vI 0,vI z,vI 0,vI 0,none,none,none,none]) l2 (fun _=>rfl)
  rw [←h3] at t3
  obtain ⟨c3,b3,k3,e3⟩:=t3.try
  rw [B_next e3,B_next (cur rfl)]
  rw [B_next (σ':=⟨Lw (vI z) none,mkR r3 r3.length b3 k3 p q (aB (lessE p r1).isSome)⟩) (asg rfl)]
  obtain ⟨z4,x6,v8,o6,t4⟩:=block4 (n:=n) (b:=b3) (k:=k3) (q:=q) (p1:=p) (z0:=z) (found:=(lessE p r1).isSome) l3
  rw [←h4] at t4
  obtain ⟨c4,b4,k4,e4⟩:=t4.try
  rw [B_next e4,B_next (cur rfl)]
  rw [B_next (σ':=⟨[some (.at .me),vI 0,vI z4,vI 0,vI 0,vI 0,x6,vI 0,none],mkR r4 r4.length b4 k4 p q (aB v8)⟩) (asg (by simp [okSet_eq]))]
  obtain ⟨x8,o8,t5⟩:=block5 (n:=n+1) (b:=b4) (k:=k4) (p2:=q) (p1:=p) (f8:=aB v8) (x2:=vI z4) (x6:=x6) rfl o6 l4
  rw [←h5] at t5
  obtain ⟨c5,b5,k5,e5⟩:=t5.try
  rw [B_next e5,B_next (cur rfl)]
  refine ⟨r5.length,b5,k5,v8,?_⟩
  rw [B_ret (S_ret (v:=ab true) rfl rfl)]
  rfl
end Mine
namespace Mine
noncomputable abbrev mkP (pre t:List Nat) (c b k:Int) (f6 f7 f8:Option Atom):FL:=mkF (pre ++ t) c (pre ++ t).length 0 b k f6 f7 f8
variable {n:Nat} {pre t:List Nat} {b k:Int} {f6 f7 f8:Option Atom} {Γ:Call} {N:Nat} {loc:List (Option AV)}
theorem rep1 {x z c:Nat} (h:(pre ++ x :: t).length < 900) (hc:pre.length+1 ≤ c):cl (n+2) 11 [.at .me,as ⟨#[z]⟩] (mkP pre (x :: t) c pre.length ((pre.length:Int)+1) f6 f7 f8) = some (.at (.cst .none),mkP (pre ++ [z]) t c pre.length ((pre.length:Int)+1) f6 f7 f8):=by
  have:=slice_from_spec (n:=n) (l:=pre ++ x :: t) (lb:=0) (f6:=f6) (f7:=f7) (f8:=f8) (c:=c) (b:=pre.length) (k:=pre.length+1) (y:=[z]) (by simp at h ⊢;omega) (by omega) (by simp)
  have e1:(pre ++ x :: t).take pre.length = pre:=List.take_left
  have e2:(pre ++ x :: t).drop (pre.length+1) = t:=by
    have:pre ++ x :: t = (pre ++ [x]) ++ t:=by simp
    rw [this]
    have h2:pre.length+1 = (pre ++ [x]).length:=by simp
    rw [h2,List.drop_left]
  rw [e1,e2] at this
  have h1:moved c pre.length (pre.length+1) ((([z]:List Nat).length:Int) - (((pre.length+1:Nat):Int) - pre.length)) = c:=by
    unfold moved
    rw [if_pos hc];simp;omega
  have h2:((pre ++ x :: t).length:Int)+((([z]:List Nat).length:Int) - (((pre.length+1:Nat):Int) - pre.length)) = ((pre ++ [z]) ++ t).length:=by simp only [List.length_append,List.length_cons,List.length_nil];omega
  rw [h1,h2] at this
  exact this
theorem P_bra {c:Int}:evS tabs Γ N (.setf 4 (.fld 1)) ⟨some (.at .me) :: loc,mkP pre t c b k f6 f7 f8⟩ = some (⟨some (.at .me) :: loc,mkP pre t c c k f6 f7 f8⟩,.next):=F_bra
theorem P_ket {c:Int}:evS tabs Γ N (.setf 5 (.fld 1)) ⟨some (.at .me) :: loc,mkP pre t c b k f6 f7 f8⟩ = some (⟨some (.at .me) :: loc,mkP pre t c b c f6 f7 f8⟩,.next):=F_ket
theorem P_inc {c:Int}:evS tabs Γ N (.augf 1 .add (.int 1)) ⟨some (.at .me) :: loc,mkP pre t c b k f6 f7 f8⟩ = some (⟨some (.at .me) :: loc,mkP pre t (c+1) b k f6 f7 f8⟩,.next):=F_inc
theorem P_v {c:Int} {i:Nat} (ho:okSet i ⟨some (.at .me) :: loc,mkP pre t c b k f6 f7 f8⟩ = true):evS tabs Γ N (.assign i (.fld 1)) ⟨some (.at .me) :: loc,mkP pre t c b k f6 f7 f8⟩ = some (⟨(some (.at .me) :: loc).set i (vI c),mkP pre t c b k f6 f7 f8⟩,.next):=S_assign F_c rfl ho
theorem P_cur {c z:Int} {i:Nat} (h:(some (.at .me) :: loc)[i]? = some (vI z)):evS tabs Γ N (.setf 1 (.var i)) ⟨some (.at .me) :: loc,mkP pre t c b k f6 f7 f8⟩ = some (⟨some (.at .me) :: loc,mkP pre t z b k f6 f7 f8⟩,.next):=F_curv h
theorem P_end {c:Int}:evT tabs Γ (.cmp .ge (.fld 1) (.fld 2)) ⟨some (.at .me) :: loc,mkP pre t c b k f6 f7 f8⟩ = some (decide (c ≥ (pre ++ t).length),mkP pre t c b k f6 f7 f8):=T_cmp (E_fld rfl rfl) (E_fld rfl rfl) rfl
theorem T_at {y:Nat} (hs:(pre ++ t).length < 1000):evT tabs Γ (.or (.cons (.cmp .eq (.fld 1) (.fld 2)) (.cons (.cmp .ne (.idx (.fld 0) (.fld 1)) (.str ⟨#[y]⟩)) .nil))) ⟨some (.at .me) :: loc,mkP pre t pre.length b k f6 f7 f8⟩ =
    some (t.head? != some y,mkP pre t pre.length b k f6 f7 f8):=by
  cases t with
  | nil=>exact T_of (E_or2 (va:=true) (vb:=true) (E_cmp F_c F_l (congrArg some (by simp))) fun h=>nomatch h)
  | cons x t=>
    have h1:((pre.length:Int) == ((pre ++ x :: t).length:Int)) = false:=beq_eq_false_iff_ne.mpr (by simp only [List.length_append,List.length_cons];omega)
    have h3:idxV (.at (.str (tx (pre ++ x :: t)))) (.at (.int pre.length)) = some (as (chr1 x)):=idx_tx (by simp only [small,decide_eq_true_eq];omega) (by simp)
    exact T_of (E_or2 (va:=false) (E_cmp F_c F_l (congrArg some h1)) fun _=>E_cmp (E_idx F_t F_c h3) E_str (congrArg some (chr1_ne x y)))
noncomputable def unmark (x:Nat):Nat:=if x = 73 then 105 else if x = 89 then 121 else x
noncomputable abbrev kPW:CB:=(.cons (.assign 1 (.fld 1)) (.cons (.try 0 (.cons (.setf 4 (.fld 1)) (.cons (.assign 2 (.callM 0 8 (.cons (.cattr (.ofString "a_1")) .nil))) (.cons (.setf 5 (.fld 1)) (.cons (.ite (.cmp .eq (.var 2) (.int 1)) (.cons (.expr (.callM 0 11 (.cons (.str ⟨#[121]⟩) .nil))) .nil) (.cons (.ite (.cmp .eq (.var 2) (.int 2)) (.cons (.expr (.callM 0 11 (.cons (.str ⟨#[105]⟩) .nil))) .nil) (.cons (.ite (.cmp .ge (.fld 1) (.fld 2)) (.cons (.raise 0) .nil) .nil) (.cons (.augf 1 .add (.int 1)) .nil))) .nil)) (.cons .cont .nil)))))) (.cons (.setf 1 (.var 1)) (.cons .brk .nil))))
theorem fwd_P {A:Addr} {rows:List FRow} (hs:(pre ++ t).length < 1000) (hT:TabOf A id rows) (h0:0 < rows.length) {p:Nat × Int} (h:fa rows t = some p) :
    cl (n+1) 8 [.at .me,.at (.cst (.ref A))] (mkP pre t pre.length b k f6 f7 f8) = some (ai p.2,mkP pre t ((pre.length:Int)+p.1) b k f6 f7 f8):=
  fwd_spec (l:=pre ++ t) (c:=pre.length) hs (by simp) hT h0 (by rw [List.drop_left];exact h)
theorem post_loop:∀ (t pre:List Nat) (M:Nat) (x1 x2:Option AV) (b k:Int),okv x1 = true→okv x2 = true→(pre ++ t).length < 900→t.length < M→
    ∃ (y1 y2:Option AV) (c b' k':Int),okv y1 = true∧okv y2 = true∧whileN (evT tabs (cl (n+3)) (.bool true)) (fun σ=>evB tabs (cl (n+3)) 1000 kPW σ) M ⟨[some (.at .me),x1,x2],mkP pre t pre.length b k f6 f7 f8⟩ =
      some (⟨[some (.at .me),y1,y2],mkF (pre ++ t.map unmark) c (pre ++ t.map unmark).length 0 b' k' f6 f7 f8⟩,.next)
  | _,_,0,_,_,_,_,_,_,_,h=>by omega
  | t,pre,M+1,x1,x2,b,k,o1,o2,hl,hM=>by
    have hf:=fwd_P (n:=n+2) (pre:=pre) (t:=t) (b:=pre.length) (k:=k) (f6:=f6) (f7:=f7) (f8:=f8) (by omega) tab1 (by decide) (fa_1 t)
    have ho:∀ fl,hasOwn ⟨[some (.at .me),vI pre.length,x2],fl⟩ = false:=by intro fl;simp [hasOwn_eq,o2]
    have h0:evE tabs (cl (n+3)) (.callM 0 8 (.cons (.cattr (.ofString "a_1")) .nil)) ⟨[some (.at .me),vI pre.length,x2],mkP pre t pre.length pre.length k f6 f7 f8⟩ = _:=E_callM rfl (A_cattr at_a1) rfl (ho _) hf
    have s1:evS tabs (cl (n+3)) 1000 (.assign 1 (.fld 1)) ⟨[some (.at .me),x1,x2],mkP pre t pre.length b k f6 f7 f8⟩ = some (⟨[some (.at .me),vI pre.length,x2],mkP pre t pre.length b k f6 f7 f8⟩,.next):=P_v (by simp [okSet_eq,o1])
    have s2:=fun z:Int=>fun c:Int=>fun h:evE tabs (cl (n+3)) (.callM 0 8 (.cons (.cattr (.ofString "a_1")) .nil)) ⟨[some (.at .me),vI pre.length,x2],mkP pre t pre.length pre.length k f6 f7 f8⟩ = some (ai z,mkP pre t c pre.length k f6 f7 f8)=>(S_assign (N:=1000) (i:=2) h rfl (by simp [okSet_eq,o2])).trans (show _ = some ((⟨[some (.at .me),vI pre.length,vI z],mkP pre t c pre.length k f6 f7 f8⟩:AS),Out.next) from rfl)
    rcases t with _ | ⟨x,t⟩
    · have e1:end1 [] = (0,3):=rfl
      rw [e1] at h0
      have s3:=P_end (Γ:=cl (n+3)) (loc:=[vI pre.length,vI 3]) (pre:=pre) (t:=[]) (c:=(pre.length:Int)+(0:Nat)) (b:=pre.length) (k:=(pre.length:Int)+(0:Nat)) (f6:=f6) (f7:=f7) (f8:=f8)
      refine ⟨vI pre.length,vI 3,pre.length,pre.length,(pre.length:Int)+(0:Nat),rfl,rfl,?_⟩
      rw [while_brk (t_true _) ((B_next s1).trans ((B_next (S_tryx ((B_next P_bra).trans ((B_next (s2 3 _ h0)).trans ((B_next P_ket).trans (B_exc ((S_false (T_no rfl (by decide))).trans (B_exc ((S_false (T_no rfl (by decide))).trans (B_lab (T_val s3 (by simp)))))))))))).trans ((B_next (P_cur rfl)).trans (B_brk S_brk))))]
      rfl
    · by_cases h1:x = 89
      · subst h1
        have e1:end1 (89 :: t) = (1,1):=by simp [end1,List.isPrefixOf]
        rw [e1] at h0
        have hr:=rep1 (n:=n+1) (pre:=pre) (t:=t) (x:=89) (z:=121) (c:=pre.length+1) (f6:=f6) (f7:=f7) (f8:=f8) hl (Nat.le_refl _)
        obtain ⟨y1,y2,c,b',k',q1,q2,ih⟩:=post_loop t (pre ++ [121]) M (vI pre.length) (vI 1) pre.length ((pre.length:Int)+1) rfl rfl (by simp at hl ⊢;omega) (by simp at hM;omega)
        refine ⟨y1,y2,c,b',k',q1,q2,?_⟩
        have h2:evE tabs (cl (n+3)) (.callM 0 11 (.cons (.str ⟨#[121]⟩) .nil)) ⟨[some (.at .me),vI pre.length,vI 1],mkP pre (89 :: t) ((pre.length:Int)+1) pre.length ((pre.length:Int)+1) f6 f7 f8⟩ = _:=E_callM rfl A_str rfl rfl hr
        rw [while_cont (t_true _) ((B_next s1).trans (B_cont (S_try ((B_next P_bra).trans ((B_next (s2 1 _ h0)).trans ((B_next P_ket).trans ((B_next ((S_true (T_yes rfl)).trans ((B_next (S_expr h2)).trans B_nil))).trans (B_cont S_cont))))) (by intro j h;cases h))))]
        have el:((pre ++ [121]).length:Int) = ((pre.length+1:Nat):Int):=by simp
        rw [el] at ih
        refine ih.trans ?_
        simp only [List.map_cons,List.append_assoc,List.cons_append,List.nil_append]
        rfl
      by_cases h2:x = 73
      · subst h2
        have e1:end1 (73 :: t) = (1,2):=by simp [end1,List.isPrefixOf]
        rw [e1] at h0
        have hr:=rep1 (n:=n+1) (pre:=pre) (t:=t) (x:=73) (z:=105) (c:=pre.length+1) (f6:=f6) (f7:=f7) (f8:=f8) hl (Nat.le_refl _)
        obtain ⟨y1,y2,c,b',k',q1,q2,ih⟩:=post_loop t (pre ++ [105]) M (vI pre.length) (vI 2) pre.length ((pre.length:Int)+1) rfl rfl (by simp at hl ⊢;omega) (by simp at hM;omega)
        refine ⟨y1,y2,c,b',k',q1,q2,?_⟩
        have h2:evE tabs (cl (n+3)) (.callM 0 11 (.cons (.str ⟨#[105]⟩) .nil)) ⟨[some (.at .me),vI pre.length,vI 2],mkP pre (73 :: t) ((pre.length:Int)+1) pre.length ((pre.length:Int)+1) f6 f7 f8⟩ = _:=E_callM rfl A_str rfl rfl hr
        rw [while_cont (t_true _) ((B_next s1).trans (B_cont (S_try ((B_next P_bra).trans ((B_next (s2 2 _ h0)).trans ((B_next P_ket).trans ((B_next ((S_false (T_no rfl (by decide))).trans ((B_next ((S_true (T_yes rfl)).trans ((B_next (S_expr h2)).trans B_nil))).trans B_nil))).trans (B_cont S_cont))))) (by intro j h;cases h))))]
        have el:((pre ++ [105]).length:Int) = ((pre.length+1:Nat):Int):=by simp
        rw [el] at ih
        refine ih.trans ?_
        simp only [List.map_cons,List.append_assoc,List.cons_append,List.nil_append]
        rfl
      · have e1:end1 (x :: t) = (0,3):=by
          have a1:(73 == x) = false:=beq_eq_false_iff_ne.mpr (Ne.symm h2)
          have a2:(89 == x) = false:=beq_eq_false_iff_ne.mpr (Ne.symm h1)
          simp [end1,List.isPrefixOf,a1,a2]
        rw [e1] at h0
        obtain ⟨y1,y2,c,b',k',q1,q2,ih⟩:=post_loop t (pre ++ [x]) M (vI pre.length) (vI 3) pre.length ((pre.length:Int)+(0:Nat)) rfl rfl (by simp at hl ⊢;omega) (by simp at hM;omega)
        refine ⟨y1,y2,c,b',k',q1,q2,?_⟩
        have s3:=P_end (Γ:=cl (n+3)) (loc:=[vI pre.length,vI 3]) (pre:=pre) (t:=x :: t) (c:=(pre.length:Int)+(0:Nat)) (b:=pre.length) (k:=(pre.length:Int)+(0:Nat)) (f6:=f6) (f7:=f7) (f8:=f8)
        rw [while_cont (t_true _) ((B_next s1).trans (B_cont (S_try ((B_next P_bra).trans ((B_next (s2 3 _ h0)).trans ((B_next P_ket).trans ((B_next ((S_false (T_no rfl (by decide))).trans ((B_next ((S_false (T_no rfl (by decide))).trans ((B_skip (T_val s3 (by simp only [List.length_append,List.length_cons];exact decide_eq_false (by omega)))).trans ((B_next P_inc).trans B_nil)))).trans B_nil))).trans (B_cont S_cont))))) (by intro j h;cases h))))]
        have el:((pre ++ [x]).length:Int) = (pre.length:Int)+(0:Nat)+1:=by simp
        have eu:unmark x = x:=by unfold unmark;rw [if_neg h2,if_neg h1]
        rw [el] at ih
        simp only [mkP,List.append_assoc,List.cons_append,List.nil_append] at ih ⊢
        refine ih.trans ?_
        rw [List.map_cons,eu]
theorem postlude {l:List Nat} (hl:l.length < 900):∃ c b' k':Int,cl (n+4) 17 [.at .me] (mkF l 0 l.length 0 b k f6 f7 f8) = some (ab true,mkF (l.map unmark) c (l.map unmark).length 0 b' k' f6 f7 f8):=by
  obtain ⟨y1,y2,c,b',k',_,_,h⟩:=post_loop (n:=n) (f6:=f6) (f7:=f7) (f8:=f8) l [] 1000 none none b k rfl rfl hl (by omega)
  refine ⟨c,b',k',?_⟩
  rw [cl_at (F:=⟨1,_,c_r_postlude⟩) rfl rfl]
  show retOf (evB tabs (cl (n+3)) 1000 (.cons (.while (.bool true) kPW) (.cons (.ret (.bool true)) .nil)) ⟨[some (.at .me),none,none],mkP [] l (([]:List Nat).length:Int) b k f6 f7 f8⟩) = _
  rw [B_next (S_while.trans h),B_ret (S_ret (v:=ab true) rfl rfl)]
  rfl
end Mine
namespace Mine
variable {n:Nat} {pre t:List Nat} {b k:Int} {f6 f7 f8:Option Atom} {Γ:Call} {N:Nat} {loc:List (Option AV)}
noncomputable def headV:List Nat→Bool
  | []=>false
  | x :: _=>isV x
noncomputable def mk:Bool→List Nat→List Nat
  | _,[]=>[]
  | bh,x :: t=>if x = 121∧bh = true then 89 :: mk false t else if x = 105∧bh = true∧headV t = true then 73 :: mk false t else x :: mk (isV x) t
theorem mk_false (x:Nat) (t:List Nat):mk false (x :: t) = x :: mk (isV x) t:=by simp [mk]
theorem mk_skip:∀ (u t:List Nat),(∀ x ∈ u,isV x = false)→mk false (u ++ t) = u ++ mk false t
  | [],t,_=>rfl
  | x :: u,t,h=>by
    rw [List.cons_append,mk_false,h x (by simp),mk_skip u t (fun y hy=>h y (by simp [hy]))];rfl
theorem mk_quiet:∀ (t:List Nat),headV t = false→mk true t = mk false t
  | [],_=>rfl
  | x :: t,h=>by
    have hx:isV x = false:=h
    have h1:x ≠ 121:=by rintro rfl;simp [isV] at hx
    have h2:x ≠ 105:=by rintro rfl;simp [isV] at hx
    simp [mk,h1,h2]
theorem mk_len:∀ (bh:Bool) (t:List Nat),(mk bh t).length = t.length
  | _,[]=>rfl
  | bh,x :: t=>by
    unfold mk
    split
    · simp [mk_len false t]
    · split
      · simp [mk_len false t]
      · simp [mk_len (isV x) t]
noncomputable abbrev tAt (y:Nat):CE:=(.or (.cons (.cmp .eq (.fld 1) (.fld 2)) (.cons (.cmp .ne (.idx (.fld 0) (.fld 1)) (.str ⟨#[y]⟩)) .nil)))
noncomputable abbrev kT3:CB:=(.cons (.ite (.not (.callM 0 3 (.cons (.cattr (.ofString "g_v")) .nil))) (.cons (.raise 3) .nil) .nil) (.cons (.expr (.callM 0 11 (.cons (.str ⟨#[73]⟩) .nil))) .nil))
noncomputable abbrev kT2:CB:=(.cons (.ite (tAt 105) (.cons (.raise 2) .nil) .nil) (.cons (.augf 1 .add (.int 1)) (.cons (.setf 5 (.fld 1)) (.cons (.assign 8 (.fld 1)) (.cons (.try 3 kT3) (.cons (.setf 1 (.var 8)) (.cons .brk .nil)))))))
noncomputable abbrev kW2:CB:=(.cons (.assign 7 (.fld 1)) (.cons (.try 2 kT2) (.cons (.setf 1 (.var 7)) (.cons (.ite (tAt 121) (.cons (.setf 1 (.var 6)) (.cons (.raise 1) .nil)) .nil) (.cons (.augf 1 .add (.int 1)) (.cons (.setf 5 (.fld 1)) (.cons (.expr (.callM 0 11 (.cons (.str ⟨#[89]⟩) .nil))) (.cons .brk .nil))))))))
noncomputable abbrev kT1:CB:=(.cons (.setf 4 (.fld 1)) (.cons (.while (.bool true) kW2) .nil))
noncomputable abbrev kT0:CB:=(.cons (.ite (.not (.callM 0 5 (.cons (.cattr (.ofString "g_v")) .nil))) (.cons (.raise 0) .nil) .nil) (.cons (.augf 1 .add (.int 1)) (.cons (.assign 6 (.fld 1)) (.cons (.try 1 kT1) (.cons .cont .nil)))))
noncomputable abbrev kW1:CB:=(.cons (.assign 5 (.fld 1)) (.cons (.try 0 kT0) (.cons (.setf 1 (.var 5)) (.cons .brk .nil))))
noncomputable abbrev L5 (x2 x3 x5 x6 x7 x8:Option AV):List (Option AV):=[some (.at .me),vI 0,x2,x3,vI 0,x5,x6,x7,x8]
variable {x2 x3 x5 x6 x7 x8:Option AV}
theorem own_L5 (o2:okv x2 = true) (o3:okv x3 = true) (o5:okv x5 = true) (o6:okv x6 = true) (o7:okv x7 = true) (o8:okv x8 = true) (fl:FL):hasOwn ⟨L5 x2 x3 x5 x6 x7 x8,fl⟩ = false:=by simp [hasOwn_eq,o2,o3,o5,o6,o7,o8]
theorem try3 {t:List Nat} (o2:okv x2 = true) (o3:okv x3 = true) (o5:okv x5 = true) (o6:okv x6 = true) (o7:okv x7 = true) (o8:okv x8 = true) (hl:(pre ++ 105 :: t).length < 900) :
    ∃ (c b' k':Int),evS tabs (cl (n+3)) 1000 (.try 3 kT3) ⟨L5 x2 x3 x5 x6 x7 x8,mkP pre (105 :: t) ((pre.length:Int)+1) pre.length ((pre.length:Int)+1) f6 f7 f8⟩ =
      some (⟨L5 x2 x3 x5 x6 x7 x8,mkP (pre ++ [if headV t then 73 else 105]) t c b' k' f6 f7 f8⟩,.next):=by
  have ho:=own_L5 o2 o3 o5 o6 o7 o8
  have ee:mkP pre (105 :: t) = mkP (pre ++ [105]) t:=by funext c b k f6 f7 f8;simp only [mkP,List.append_assoc,List.cons_append,List.nil_append]
  rcases t with _ | ⟨y,t⟩
  · have h1:=in_grouping_end (n:=n+2) (l:=pre ++ [105]) (lb:=0) (b:=pre.length) (k:=(pre.length:Int)+1) (f6:=f6) (f7:=f7) (f8:=f8) (a:=230) (lim:=(pre ++ [105]).length) (c:=pre.length+1) (by simp)
    have h2:evT tabs (cl (n+3)) (.not (.callM 0 3 (.cons (.cattr (.ofString "g_v")) .nil))) ⟨L5 x2 x3 x5 x6 x7 x8,mkP pre [105] ((pre.length:Int)+1) pre.length ((pre.length:Int)+1) f6 f7 f8⟩ = some (!false,mkP pre [105] ((pre.length:Int)+1) pre.length ((pre.length:Int)+1) f6 f7 f8):=T_not ((E_callM rfl (A_cattr at_v) rfl (ho _) h1))
    refine ⟨(pre.length:Int)+1,pre.length,(pre.length:Int)+1,(S_tryx (B_lab h2)).trans ?_⟩
    rw [ee];rfl
  · have hc:(pre ++ 105 :: y :: t)[pre.length+1]? = some y:=by simp
    have h1:=in_grouping_at (n:=n+2) (l:=pre ++ 105 :: y :: t) (lb:=0) (b:=pre.length) (k:=(pre.length:Int)+1) (f6:=f6) (f7:=f7) (f8:=f8) (a:=230) (by rfl) (by simp only [small,decide_eq_true_eq];omega) (lim:=(pre ++ 105 :: y :: t).length) (c:=pre.length+1) (by simp) hc
    rw [set230] at h1
    cases hy:isV y with
    | false=>
      rw [hy] at h1
      have h2:evT tabs (cl (n+3)) (.not (.callM 0 3 (.cons (.cattr (.ofString "g_v")) .nil))) ⟨L5 x2 x3 x5 x6 x7 x8,mkP pre (105 :: y :: t) ((pre.length:Int)+1) pre.length ((pre.length:Int)+1) f6 f7 f8⟩ = some (!false,mkP pre (105 :: y :: t) ((pre.length:Int)+1) pre.length ((pre.length:Int)+1) f6 f7 f8):=T_not ((E_callM rfl (A_cattr at_v) rfl (ho _) h1))
      refine ⟨(pre.length:Int)+1,pre.length,(pre.length:Int)+1,(S_tryx (B_lab h2)).trans ?_⟩
      rw [ee]
      simp only [headV,hy]
      rfl
    | true=>
      rw [hy] at h1
      have h2:evT tabs (cl (n+3)) (.not (.callM 0 3 (.cons (.cattr (.ofString "g_v")) .nil))) ⟨L5 x2 x3 x5 x6 x7 x8,mkP pre (105 :: y :: t) ((pre.length:Int)+1) pre.length ((pre.length:Int)+1) f6 f7 f8⟩ = some (!true,mkP pre (105 :: y :: t) ((pre.length+1+1:Nat):Int) pre.length ((pre.length:Int)+1) f6 f7 f8):=T_not ((E_callM rfl (A_cattr at_v) rfl (ho _) h1))
      have hr:=rep1 (n:=n+1) (pre:=pre) (t:=y :: t) (x:=105) (z:=73) (c:=pre.length+1+1) (f6:=f6) (f7:=f7) (f8:=f8) hl (by omega)
      refine ⟨((pre.length+1+1:Nat):Int),pre.length,(pre.length:Int)+1,(S_try ((B_skip h2).trans ((B_next (S_expr (E_callM rfl A_str rfl (ho _) hr))).trans B_nil)) (by intro j h;cases h)).trans ?_⟩
      simp only [headV,hy]
      rfl
theorem try1 (o2:okv x2 = true) (o3:okv x3 = true) (o5:okv x5 = true) (o7:okv x7 = true) (o8:okv x8 = true) (hl:(pre ++ t).length < 900) :
    ∃ (y7 y8:Option AV) (pre' t':List Nat) (b' k':Int),okv y7 = true∧okv y8 = true∧pre' ++ mk false t' = pre ++ mk true t∧t'.length ≤ t.length∧(pre' ++ t').length = (pre ++ t).length ∧
      evS tabs (cl (n+3)) 1000 (.try 1 kT1) ⟨L5 x2 x3 x5 (vI pre.length) x7 x8,mkP pre t pre.length b k f6 f7 f8⟩ = some (⟨L5 x2 x3 x5 (vI pre.length) y7 y8,mkP pre' t' pre'.length b' k' f6 f7 f8⟩,.next):=by
  have s7:evS tabs (cl (n+3)) 1000 (.assign 7 (.fld 1)) ⟨L5 x2 x3 x5 (vI pre.length) x7 x8,mkP pre t pre.length pre.length k f6 f7 f8⟩ = some (⟨L5 x2 x3 x5 (vI pre.length) (vI pre.length) x8,mkP pre t pre.length pre.length k f6 f7 f8⟩,.next):=P_v (by simp [okSet_eq,o7])
  have ti:=T_at (Γ:=cl (n+3)) (loc:=(L5 x2 x3 x5 (vI pre.length) (vI pre.length) x8).tail) (pre:=pre) (t:=t) (b:=pre.length) (k:=k) (f6:=f6) (f7:=f7) (f8:=f8) (y:=105) (by omega)
  have ty:=T_at (Γ:=cl (n+3)) (loc:=(L5 x2 x3 x5 (vI pre.length) (vI pre.length) x8).tail) (pre:=pre) (t:=t) (b:=pre.length) (k:=k) (f6:=f6) (f7:=f7) (f8:=f8) (y:=121) (by omega)
  by_cases h1:t.head? = some 105
  · obtain ⟨t',rfl⟩:∃ t',t = 105 :: t':=by
      cases t with
      | nil=>simp at h1
      | cons x t'=>simp at h1;exact ⟨t',by rw [h1]⟩
    obtain ⟨c,b',k',h3⟩:=try3 (n:=n) (pre:=pre) (t:=t') (f6:=f6) (f7:=f7) (f8:=f8) (x2:=x2) (x3:=x3) (x5:=x5) (x6:=vI pre.length) (x7:=vI pre.length) (x8:=vI ((pre.length:Int)+1)) o2 o3 o5 rfl rfl rfl hl
    have s8:evS tabs (cl (n+3)) 1000 (.assign 8 (.fld 1)) ⟨L5 x2 x3 x5 (vI pre.length) (vI pre.length) x8,mkP pre (105 :: t') ((pre.length:Int)+1) pre.length ((pre.length:Int)+1) f6 f7 f8⟩ = some (⟨L5 x2 x3 x5 (vI pre.length) (vI pre.length) (vI ((pre.length:Int)+1)),mkP pre (105 :: t') ((pre.length:Int)+1) pre.length ((pre.length:Int)+1) f6 f7 f8⟩,.next):=P_v (by simp [okSet_eq,o8])
    refine ⟨vI pre.length,vI ((pre.length:Int)+1),pre ++ [if headV t' then 73 else 105],t',b',k',rfl,rfl,?_,by simp,by simp,?_⟩
    · cases hh:headV t' with
      | true=>simp [mk,hh]
      | false=>
        have:mk true (105 :: t') = 105 :: mk true t':=by simp [mk,hh,show isV 105 = true from rfl]
        rw [this,mk_quiet t' hh];simp
    · have el:((pre ++ [if headV t' then 73 else 105]).length:Int) = (pre.length:Int)+1:=by simp
      rw [el]
      refine S_try ((B_next P_bra).trans ((B_next (S_while.trans (while_brk (t_true _) ((B_next s7).trans (B_brk (S_try ((B_skip (T_val ti (by simp))).trans ((B_next P_inc).trans ((B_next P_ket).trans ((B_next s8).trans ((B_next h3).trans ((B_next (P_cur rfl)).trans (B_brk S_brk))))))) (by intro j h;cases h))))))).trans B_nil)) (by intro j h;cases h)
  · have e2:evS tabs (cl (n+3)) 1000 (.try 2 kT2) ⟨L5 x2 x3 x5 (vI pre.length) (vI pre.length) x8,mkP pre t pre.length pre.length k f6 f7 f8⟩ = some (⟨L5 x2 x3 x5 (vI pre.length) (vI pre.length) x8,mkP pre t pre.length pre.length k f6 f7 f8⟩,.next):=S_tryx (B_lab (T_val ti (by simpa using h1)))
    by_cases h2:t.head? = some 121
    · obtain ⟨t',rfl⟩:∃ t',t = 121 :: t':=by
        cases t with
        | nil=>simp at h2
        | cons x t'=>simp at h2;exact ⟨t',by rw [h2]⟩
      have hr:=rep1 (n:=n+1) (pre:=pre) (t:=t') (x:=121) (z:=89) (c:=pre.length+1) (f6:=f6) (f7:=f7) (f8:=f8) hl (by omega)
      refine ⟨vI pre.length,x8,pre ++ [89],t',pre.length,(pre.length:Int)+1,rfl,o8,?_,by simp,by simp,?_⟩
      · simp [mk]
      · have el:((pre ++ [89]).length:Int) = ((pre.length+1:Nat):Int):=by simp
        rw [el]
        have h4:evE tabs (cl (n+3)) (.callM 0 11 (.cons (.str ⟨#[89]⟩) .nil)) ⟨L5 x2 x3 x5 (vI pre.length) (vI pre.length) x8,mkP pre (121 :: t') ((pre.length:Int)+1) pre.length ((pre.length:Int)+1) f6 f7 f8⟩ = _:=E_callM rfl A_str rfl (own_L5 o2 o3 o5 rfl rfl o8 _) hr
        refine S_try ((B_next P_bra).trans ((B_next (S_while.trans (while_brk (t_true _) ((B_next s7).trans ((B_next e2).trans ((B_next (P_cur rfl)).trans ((B_skip (T_val ty (by simp))).trans ((B_next P_inc).trans ((B_next P_ket).trans ((B_next (S_expr h4)).trans (B_brk S_brk))))))))))).trans B_nil)) (by intro j h;cases h)
    · refine ⟨vI pre.length,x8,pre,t,pre.length,k,rfl,o8,?_,Nat.le_refl _,rfl,?_⟩
      · cases t with
        | nil=>rfl
        | cons x t'=>
          have q1:x ≠ 105:=by simpa using h1
          have q2:x ≠ 121:=by simpa using h2
          simp [mk,q1,q2]
      · refine S_tryx ((B_next P_bra).trans (B_exc (S_while.trans (while_exc (t_true _) ((B_next s7).trans ((B_next e2).trans ((B_next (P_cur rfl)).trans (B_exc ((S_true (T_val ty (by simpa using h2))).trans ((B_next (P_cur rfl)).trans B_raise))))))))))
theorem find_split (p:Nat→Bool):∀ t:List Nat,(t.findIdx? p = none∧∀ x ∈ t,p x = false) ∨ ∃ u v t',t = u ++ v :: t'∧t.findIdx? p = some u.length∧(∀ x ∈ u,p x = false)∧p v = true
  | []=>.inl ⟨rfl,by simp⟩
  | x :: t=>by
    cases hx:p x with
    | true=>exact .inr ⟨[],x,t,rfl,by simp [List.findIdx?_cons,hx],by simp,hx⟩
    | false=>
      rcases find_split p t with ⟨h1,h2⟩ | ⟨u,v,t',h1,h2,h3,h4⟩
      · refine .inl ⟨by simp [List.findIdx?_cons,hx,h1],?_⟩
        intro y hy
        rcases List.mem_cons.mp hy with rfl | hy
        · exact hx
        · exact h2 y hy
      · refine .inr ⟨x :: u,v,t',by rw [h1];rfl,by simp [List.findIdx?_cons,hx,h2],?_,h4⟩
        intro y hy
        rcases List.mem_cons.mp hy with rfl | hy
        · exact hx
        · exact h3 y hy
theorem out_P (hl:(pre ++ t).length < 1000):cl (n+1) 5 [.at .me,.at (.cst (.ref 230))] (mkP pre t pre.length b k f6 f7 f8) =
    match t.findIdx? isV with
    | some i=>some (ab true,mkP pre t ((pre.length+i:Nat):Int) b k f6 f7 f8)
    | none=>some (ab false,mkP pre t (pre ++ t).length b k f6 f7 f8):=by
  have h:=go_out_spec (n:=n) (l:=pre ++ t) (lb:=0) (b:=b) (k:=k) (f6:=f6) (f7:=f7) (f8:=f8) (a:=230) (by rfl) hl (c:=pre.length) (by simp)
  rw [List.drop_left,show inSet 230 = isV from funext set230] at h
  exact h
theorem mark_loop:∀ (M:Nat) (t pre:List Nat) (x5 x6 x7 x8:Option AV) (b k:Int),okv x2 = true→okv x3 = true→okv x5 = true→okv x6 = true→okv x7 = true→okv x8 = true→(pre ++ t).length < 900→t.length+1 < M→
    ∃ (L:List (Option AV)) (c b' k':Int),whileN (evT tabs (cl (n+3)) (.bool true)) (fun σ=>evB tabs (cl (n+3)) 1000 kW1 σ) M ⟨L5 x2 x3 x5 x6 x7 x8,mkP pre t pre.length b k f6 f7 f8⟩ =
      some (⟨L,mkF (pre ++ mk false t) c (pre ++ mk false t).length 0 b' k' f6 f7 f8⟩,.next)
  | 0,_,_,_,_,_,_,_,_,_,_,_,_,_,_,_,h=>absurd h (Nat.not_lt_zero _)
  | M+1,t,pre,x5,x6,x7,x8,b,k,o2,o3,o5,o6,o7,o8,hl,hM=>by
    have s5:evS tabs (cl (n+3)) 1000 (.assign 5 (.fld 1)) ⟨L5 x2 x3 x5 x6 x7 x8,mkP pre t pre.length b k f6 f7 f8⟩ = some (⟨L5 x2 x3 (vI pre.length) x6 x7 x8,mkP pre t pre.length b k f6 f7 f8⟩,.next):=P_v (by simp [okSet_eq,o5])
    have hg:=out_P (n:=n+2) (pre:=pre) (t:=t) (b:=b) (k:=k) (f6:=f6) (f7:=f7) (f8:=f8) (by omega)
    have ho:=fun fl=>own_L5 (fl:=fl) o2 o3 (show okv (vI pre.length) = true from rfl) o6 o7 o8
    rcases find_split isV t with ⟨h1,h2⟩ | ⟨u,v,t',h1,h2,h3,h4⟩
    · rw [h1] at hg
      have ht:evT tabs (cl (n+3)) (.not (.callM 0 5 (.cons (.cattr (.ofString "g_v")) .nil))) ⟨L5 x2 x3 (vI pre.length) x6 x7 x8,mkP pre t pre.length b k f6 f7 f8⟩ = some (!false,mkP pre t (pre ++ t).length b k f6 f7 f8):=T_not ((E_callM rfl (A_cattr at_v) rfl (ho _) hg))
      have hq:mk false t = t:=by
        have:=mk_skip t [] h2
        simpa [mk] using this
      refine ⟨L5 x2 x3 (vI pre.length) x6 x7 x8,pre.length,b,k,?_⟩
      rw [hq]
      exact while_brk (t_true _) ((B_next s5).trans ((B_next (S_tryx (B_lab ht))).trans ((B_next (P_cur rfl)).trans (B_brk S_brk))))
    · rw [h2] at hg
      have ht:evT tabs (cl (n+3)) (.not (.callM 0 5 (.cons (.cattr (.ofString "g_v")) .nil))) ⟨L5 x2 x3 (vI pre.length) x6 x7 x8,mkP pre t pre.length b k f6 f7 f8⟩ = some (!true,mkP pre t ((pre.length+u.length:Nat):Int) b k f6 f7 f8):=T_not ((E_callM rfl (A_cattr at_v) rfl (ho _) hg))
      have ep:pre ++ t = (pre ++ u ++ [v]) ++ t':=by rw [h1];simp
      have el:((pre.length+u.length:Nat):Int)+1 = ((pre ++ u ++ [v]).length:Int):=by simp only [List.length_append,List.length_cons,List.length_nil];omega
      have s6:evS tabs (cl (n+3)) 1000 (.assign 6 (.fld 1)) ⟨L5 x2 x3 (vI pre.length) x6 x7 x8,mkP (pre ++ u ++ [v]) t' (pre ++ u ++ [v]).length b k f6 f7 f8⟩ = some (⟨L5 x2 x3 (vI pre.length) (vI (pre ++ u ++ [v]).length) x7 x8,mkP (pre ++ u ++ [v]) t' (pre ++ u ++ [v]).length b k f6 f7 f8⟩,.next):=P_v (by simp [okSet_eq,o6])
      have ee:∀ c:Int,mkP pre t c b k f6 f7 f8 = mkP (pre ++ u ++ [v]) t' c b k f6 f7 f8:=by intro c;simp only [mkP,ep]
      obtain ⟨y7,y8,pre',t'',b',k',q7,q8,g1,g2,g3,g4⟩:=try1 (n:=n) (pre:=pre ++ u ++ [v]) (t:=t') (b:=b) (k:=k) (f6:=f6) (f7:=f7) (f8:=f8) (x2:=x2) (x3:=x3) (x5:=vI pre.length) (x7:=x7) (x8:=x8) o2 o3 rfl o7 o8 (by rw [←ep];exact hl)
      have hlt:t'.length < t.length:=by rw [h1];simp;omega
      obtain ⟨L,c,b2,k2,ih⟩:=mark_loop M t'' pre' (vI pre.length) (vI (pre ++ u ++ [v]).length) y7 y8 b' k' o2 o3 rfl rfl q7 q8 (by rw [g3,←ep];exact hl) (by omega)
      have hq:pre ++ mk false t = pre' ++ mk false t'':=by
        rw [g1,h1,mk_skip u _ h3,mk_false,h4];simp
      refine ⟨L,c,b2,k2,?_⟩
      rw [hq]
      refine (while_cont (t_true _) ((B_next s5).trans (B_cont (S_try ((B_skip ht).trans ((B_next P_inc).trans ?_)) (by intro j h;cases h))))).trans ih
      rw [el,ee]
      exact (B_next s6).trans ((B_next g4).trans (B_cont S_cont))
end Mine
namespace Mine
variable {n:Nat} {pre t:List Nat} {b k:Int} {f6 f7 f8:Option Atom} {Γ:Call} {N:Nat} {loc:List (Option AV)}
noncomputable def bare (x:Nat):Nat:=if x = 225 ∨ x = 228 then 97 else if x = 233 ∨ x = 235 then 101 else if x = 237 ∨ x = 239 then 105 else if x = 243 ∨ x = 246 then 111 else if x = 250 ∨ x = 252 then 117 else x
theorem end0_cases (x:Nat) (t:List Nat):((end0 (x :: t) = (1,1)∧bare x = 97) ∨ (end0 (x :: t) = (1,2)∧bare x = 101) ∨ (end0 (x :: t) = (1,3)∧bare x = 105) ∨ (end0 (x :: t) = (1,4)∧bare x = 111) ∨ (end0 (x :: t) = (1,5)∧bare x = 117)) ∨ (end0 (x :: t) = (0,6)∧bare x = x):=by
  by_cases h225:x = 225
  · subst h225;exact .inl (.inl ⟨rfl,rfl⟩)
  by_cases h228:x = 228
  · subst h228;exact .inl (.inl ⟨rfl,rfl⟩)
  by_cases h233:x = 233
  · subst h233;exact .inl (.inr (.inl ⟨rfl,rfl⟩))
  by_cases h235:x = 235
  · subst h235;exact .inl (.inr (.inl ⟨rfl,rfl⟩))
  by_cases h237:x = 237
  · subst h237;exact .inl (.inr (.inr (.inl ⟨rfl,rfl⟩)))
  by_cases h239:x = 239
  · subst h239;exact .inl (.inr (.inr (.inl ⟨rfl,rfl⟩)))
  by_cases h243:x = 243
  · subst h243;exact .inl (.inr (.inr (.inr (.inl ⟨rfl,rfl⟩))))
  by_cases h246:x = 246
  · subst h246;exact .inl (.inr (.inr (.inr (.inl ⟨rfl,rfl⟩))))
  by_cases h250:x = 250
  · subst h250;exact .inl (.inr (.inr (.inr (.inr ⟨rfl,rfl⟩))))
  by_cases h252:x = 252
  · subst h252;exact .inl (.inr (.inr (.inr (.inr ⟨rfl,rfl⟩))))
  have q:∀ {y:Nat},x ≠ y→¬ [y].isPrefixOf (x :: t) = true:=fun h e=>h (eq_of_beq (Bool.and_eq_true_iff.mp e).1).symm
  exact .inr ⟨(if_neg (q h225)).trans ((if_neg (q h228)).trans ((if_neg (q h233)).trans ((if_neg (q h235)).trans ((if_neg (q h237)).trans ((if_neg (q h239)).trans ((if_neg (q h243)).trans ((if_neg (q h246)).trans ((if_neg (q h250)).trans (if_neg (q h252)))))))))),
    (if_neg (not_or.mpr ⟨h225,h228⟩)).trans ((if_neg (not_or.mpr ⟨h233,h235⟩)).trans ((if_neg (not_or.mpr ⟨h237,h239⟩)).trans ((if_neg (not_or.mpr ⟨h243,h246⟩)).trans (if_neg (not_or.mpr ⟨h250,h252⟩)))))⟩
noncomputable abbrev sl (w:Nat):CS:=.expr (.callM 0 11 (.cons (.str ⟨#[w]⟩) .nil))
noncomputable abbrev kIT0:CS:=(.ite (.cmp .eq (.var 3) (.int 1)) (.cons (sl 97) .nil) (.cons (.ite (.cmp .eq (.var 3) (.int 2)) (.cons (sl 101) .nil) (.cons (.ite (.cmp .eq (.var 3) (.int 3)) (.cons (sl 105) .nil) (.cons (.ite (.cmp .eq (.var 3) (.int 4)) (.cons (sl 111) .nil) (.cons (.ite (.cmp .eq (.var 3) (.int 5)) (.cons (sl 117) .nil) (.cons (.ite (.cmp .ge (.fld 1) (.fld 2)) (.cons (.raise 0) .nil) .nil) (.cons (.augf 1 .add (.int 1)) .nil))) .nil)) .nil)) .nil)) .nil))
noncomputable abbrev kW0:CB:=(.cons (.assign 2 (.fld 1)) (.cons (.try 0 (.cons (.setf 4 (.fld 1)) (.cons (.assign 3 (.callM 0 8 (.cons (.cattr (.ofString "a_0")) .nil))) (.cons (.setf 5 (.fld 1)) (.cons kIT0 (.cons .cont .nil)))))) (.cons (.setf 1 (.var 2)) (.cons .brk .nil))))
theorem it1 {σ:AS} (h:σ.loc[3]? = some (vI 1)):evS tabs Γ N kIT0 σ = evS tabs Γ N (sl 97) σ:=by
  rw [S_true (T_yes h),B_one]
theorem it2 {σ:AS} (h:σ.loc[3]? = some (vI 2)):evS tabs Γ N kIT0 σ = evS tabs Γ N (sl 101) σ:=by
  rw [S_false (T_no h (by decide)),B_one,S_true (T_yes h),B_one]
theorem it3 {σ:AS} (h:σ.loc[3]? = some (vI 3)):evS tabs Γ N kIT0 σ = evS tabs Γ N (sl 105) σ:=by
  rw [S_false (T_no h (by decide)),B_one,S_false (T_no h (by decide)),B_one,S_true (T_yes h),B_one]
theorem it4 {σ:AS} (h:σ.loc[3]? = some (vI 4)):evS tabs Γ N kIT0 σ = evS tabs Γ N (sl 111) σ:=by
  rw [S_false (T_no h (by decide)),B_one,S_false (T_no h (by decide)),B_one,S_false (T_no h (by decide)),B_one,S_true (T_yes h),B_one]
theorem it5 {σ:AS} (h:σ.loc[3]? = some (vI 5)):evS tabs Γ N kIT0 σ = evS tabs Γ N (sl 117) σ:=by
  rw [S_false (T_no h (by decide)),B_one,S_false (T_no h (by decide)),B_one,S_false (T_no h (by decide)),B_one,S_false (T_no h (by decide)),B_one,S_true (T_yes h),B_one]
theorem it6 {σ:AS} (h:σ.loc[3]? = some (vI 6)):evS tabs Γ N kIT0 σ = evB tabs Γ N (.cons (.ite (.cmp .ge (.fld 1) (.fld 2)) (.cons (.raise 0) .nil) .nil) (.cons (.augf 1 .add (.int 1)) .nil)) σ:=by
  rw [S_false (T_no h (by decide)),B_one,S_false (T_no h (by decide)),B_one,S_false (T_no h (by decide)),B_one,S_false (T_no h (by decide)),B_one,S_false (T_no h (by decide))]
noncomputable abbrev L0 (x2 x3:Option AV):List (Option AV):=[some (.at .me),vI 0,x2,x3,none,none,none,none,none]
theorem bare_loop:∀ (t pre:List Nat) (M:Nat) (x2 x3:Option AV) (b k:Int),okv x2 = true→okv x3 = true→(pre ++ t).length < 900→t.length < M→
    ∃ (y2 y3:Option AV) (c b' k':Int),okv y2 = true∧okv y3 = true∧whileN (evT tabs (cl (n+3)) (.bool true)) (fun σ=>evB tabs (cl (n+3)) 1000 kW0 σ) M ⟨L0 x2 x3,mkP pre t pre.length b k f6 f7 f8⟩ =
      some (⟨L0 y2 y3,mkF (pre ++ t.map bare) c (pre ++ t.map bare).length 0 b' k' f6 f7 f8⟩,.next)
  | _,_,0,_,_,_,_,_,_,_,h=>by omega
  | t,pre,M+1,x2,x3,b,k,o2,o3,hl,hM=>by
    have hf:=fwd_P (n:=n+2) (pre:=pre) (t:=t) (b:=pre.length) (k:=k) (f6:=f6) (f7:=f7) (f8:=f8) (by omega) tab0 (by decide) (fa_0 t)
    have ho:∀ fl,hasOwn ⟨L0 (vI pre.length) x3,fl⟩ = false:=by intro fl;simp [hasOwn_eq,o3]
    have h0:evE tabs (cl (n+3)) (.callM 0 8 (.cons (.cattr (.ofString "a_0")) .nil)) ⟨L0 (vI pre.length) x3,mkP pre t pre.length pre.length k f6 f7 f8⟩ = _:=E_callM rfl (A_cattr at_a0) rfl (ho _) hf
    have s1:evS tabs (cl (n+3)) 1000 (.assign 2 (.fld 1)) ⟨L0 x2 x3,mkP pre t pre.length b k f6 f7 f8⟩ = some (⟨L0 (vI pre.length) x3,mkP pre t pre.length b k f6 f7 f8⟩,.next):=P_v (by simp [okSet_eq,o2])
    have s2:=fun z:Int=>fun c:Int=>fun h:evE tabs (cl (n+3)) (.callM 0 8 (.cons (.cattr (.ofString "a_0")) .nil)) ⟨L0 (vI pre.length) x3,mkP pre t pre.length pre.length k f6 f7 f8⟩ = some (ai z,mkP pre t c pre.length k f6 f7 f8)=>(S_assign (N:=1000) (i:=3) h rfl (by simp [okSet_eq,o3])).trans (show _ = some ((⟨L0 (vI pre.length) (vI z),mkP pre t c pre.length k f6 f7 f8⟩:AS),Out.next) from rfl)
    rcases t with _ | ⟨x,t⟩
    · have e1:end0 [] = (0,6):=rfl
      rw [e1] at h0
      have s3:=P_end (Γ:=cl (n+3)) (loc:=(L0 (vI pre.length) (vI 6)).tail) (pre:=pre) (t:=[]) (c:=(pre.length:Int)+(0:Nat)) (b:=pre.length) (k:=(pre.length:Int)+(0:Nat)) (f6:=f6) (f7:=f7) (f8:=f8)
      refine ⟨vI pre.length,vI 6,pre.length,pre.length,(pre.length:Int)+(0:Nat),rfl,rfl,?_⟩
      rw [while_brk (t_true _) ((B_next s1).trans ((B_next (S_tryx ((B_next P_bra).trans ((B_next (s2 6 _ h0)).trans ((B_next P_ket).trans (B_exc ((it6 rfl).trans (B_lab (T_val s3 (by simp)))))))))).trans ((B_next (P_cur rfl)).trans (B_brk S_brk))))]
      rfl
    · rcases end0_cases x t with hz | ⟨e1,e2⟩
      · have fin:∀ (z:Int) (w:Nat),end0 (x :: t) = (1,z)→bare x = w→(∀ fl,evS tabs (cl (n+3)) 1000 kIT0 ⟨L0 (vI pre.length) (vI z),fl⟩ = evS tabs (cl (n+3)) 1000 (sl w) ⟨L0 (vI pre.length) (vI z),fl⟩)→
            ∃ (y2 y3:Option AV) (c b' k':Int),okv y2 = true∧okv y3 = true∧whileN (evT tabs (cl (n+3)) (.bool true)) (fun σ=>evB tabs (cl (n+3)) 1000 kW0 σ) (M+1) ⟨L0 x2 x3,mkP pre (x :: t) pre.length b k f6 f7 f8⟩ =
              some (⟨L0 y2 y3,mkF (pre ++ (x :: t).map bare) c (pre ++ (x :: t).map bare).length 0 b' k' f6 f7 f8⟩,.next):=by
          intro z w e1 e2 e3
          rw [e1] at h0
          have hr:=rep1 (n:=n+1) (pre:=pre) (t:=t) (x:=x) (z:=w) (c:=pre.length+1) (f6:=f6) (f7:=f7) (f8:=f8) hl (Nat.le_refl _)
          obtain ⟨y1,y2,c,b',k',q1,q2,ih⟩:=bare_loop t (pre ++ [w]) M (vI pre.length) (vI z) pre.length ((pre.length:Int)+1) rfl rfl (by simp at hl ⊢;omega) (by simp at hM;omega)
          refine ⟨y1,y2,c,b',k',q1,q2,?_⟩
          have h2:evE tabs (cl (n+3)) (.callM 0 11 (.cons (.str ⟨#[w]⟩) .nil)) ⟨L0 (vI pre.length) (vI z),mkP pre (x :: t) ((pre.length:Int)+1) pre.length ((pre.length:Int)+1) f6 f7 f8⟩ = _:=E_callM rfl A_str rfl rfl hr
          rw [while_cont (t_true _) ((B_next s1).trans (B_cont (S_try ((B_next P_bra).trans ((B_next (s2 z _ h0)).trans ((B_next P_ket).trans ((B_next ((e3 _).trans (S_expr h2))).trans (B_cont S_cont))))) (by intro j h;cases h))))]
          have el:((pre ++ [w]).length:Int) = ((pre.length+1:Nat):Int):=by simp
          rw [el] at ih
          refine ih.trans ?_
          rw [List.map_cons,e2]
          simp only [List.append_assoc,List.cons_append,List.nil_append]
        rcases hz with ⟨e1,e2⟩ | ⟨e1,e2⟩ | ⟨e1,e2⟩ | ⟨e1,e2⟩ | ⟨e1,e2⟩
        · exact fin 1 97 e1 e2 (fun fl=>it1 rfl)
        · exact fin 2 101 e1 e2 (fun fl=>it2 rfl)
        · exact fin 3 105 e1 e2 (fun fl=>it3 rfl)
        · exact fin 4 111 e1 e2 (fun fl=>it4 rfl)
        · exact fin 5 117 e1 e2 (fun fl=>it5 rfl)
      · rw [e1] at h0
        obtain ⟨y1,y2,c,b',k',q1,q2,ih⟩:=bare_loop t (pre ++ [x]) M (vI pre.length) (vI 6) pre.length ((pre.length:Int)+(0:Nat)) rfl rfl (by simp at hl ⊢;omega) (by simp at hM;omega)
        refine ⟨y1,y2,c,b',k',q1,q2,?_⟩
        have s3:=P_end (Γ:=cl (n+3)) (loc:=(L0 (vI pre.length) (vI 6)).tail) (pre:=pre) (t:=x :: t) (c:=(pre.length:Int)+(0:Nat)) (b:=pre.length) (k:=(pre.length:Int)+(0:Nat)) (f6:=f6) (f7:=f7) (f8:=f8)
        rw [while_cont (t_true _) ((B_next s1).trans (B_cont (S_try ((B_next P_bra).trans ((B_next (s2 6 _ h0)).trans ((B_next P_ket).trans ((B_next ((it6 rfl).trans ((B_skip (T_val s3 (by simp only [List.length_append,List.length_cons];exact decide_eq_false (by omega)))).trans ((B_next P_inc).trans B_nil)))).trans (B_cont S_cont))))) (by intro j h;cases h))))]
        have el:((pre ++ [x]).length:Int) = (pre.length:Int)+(0:Nat)+1:=by simp
        rw [el] at ih
        simp only [mkP,List.append_assoc,List.cons_append,List.nil_append] at ih ⊢
        refine ih.trans ?_
        rw [List.map_cons,e2]
noncomputable def marked (l:List Nat):List Nat:=
  match l.map bare with
  | []=>[]
  | x :: t=>if x = 121 then 89 :: mk false t else mk false (x :: t)
theorem marked_len (l:List Nat):(marked l).length = l.length:=by
  unfold marked
  have:(l.map bare).length = l.length:=List.length_map ..
  split
  · rename_i h;rw [h] at this;exact this
  · rename_i h;rw [h] at this;split
    · simpa [mk_len] using this
    · rw [mk_len];exact this
theorem prelude {l:List Nat} (hl:l.length < 900):∃ c b' k':Int,cl (n+4) 15 [.at .me] (mkF l 0 l.length 0 b k f6 f7 f8) = some (ab true,mkF (marked l) c (marked l).length 0 b' k' f6 f7 f8):=by
  obtain ⟨y2,y3,c,b1,k1,o2,o3,h⟩:=bare_loop (n:=n) (f6:=f6) (f7:=f7) (f8:=f8) l [] 1000 none none b k rfl rfl hl (by omega)
  rw [cl_at (F:=⟨1,_,c_r_prelude⟩) rfl rfl]
  show ∃ c b' k':Int,retOf (evB tabs (cl (n+3)) 1000 (.cons (.assign 1 (.fld 1)) (.cons (.while (.bool true) kW0) (.cons (.setf 1 (.var 1)) (.cons (.assign 4 (.fld 1)) (.cons (.try 0 (.cons (.setf 4 (.fld 1)) (.cons (.ite (tAt 121) (.cons (.setf 1 (.var 4)) (.cons (.raise 0) .nil)) .nil) (.cons (.augf 1 .add (.int 1)) (.cons (.setf 5 (.fld 1)) (.cons (sl 89) .nil)))))) (.cons (.while (.bool true) kW1) (.cons (.ret (.bool true)) .nil))))))) ⟨[some (.at .me),none,none,none,none,none,none,none,none],mkP [] l (([]:List Nat).length:Int) b k f6 f7 f8⟩) = _
  rw [B_next (σ':=⟨L0 none none,mkP [] l (([]:List Nat).length:Int) b k f6 f7 f8⟩) (P_v rfl),B_next (S_while.trans h)]
  have hlen:(l.map bare).length = l.length:=List.length_map ..
  unfold marked
  generalize l.map bare = m at hlen
  have hm:m.length < 900:=by omega
  show ∃ c' b' k':Int,retOf (evB tabs (cl (n+3)) 1000 _ ⟨L0 y2 y3,mkP [] m c b1 k1 f6 f7 f8⟩) = _
  rw [B_next (P_cur (z:=0) rfl)]
  rw [B_next (σ':=⟨[some (.at .me),vI 0,y2,y3,vI 0,none,none,none,none],mkP [] m (([]:List Nat).length:Int) b1 k1 f6 f7 f8⟩) (P_v rfl)]
  have ty:=T_at (Γ:=cl (n+3)) (loc:=[vI 0,y2,y3,vI 0,none,none,none,none]) (pre:=[]) (t:=m) (b:=(([]:List Nat).length:Int)) (k:=k1) (f6:=f6) (f7:=f7) (f8:=f8) (y:=121) (by simp;omega)
  by_cases hy:m.head? = some 121
  · obtain ⟨t',rfl⟩:∃ t',m = 121 :: t':=by
      cases m with
      | nil=>simp at hy
      | cons x t'=>simp at hy;exact ⟨t',by rw [hy]⟩
    have hr:=rep1 (n:=n+1) (pre:=[]) (t:=t') (x:=121) (z:=89) (c:=0+1) (f6:=f6) (f7:=f7) (f8:=f8) hm (by simp)
    have ho:∀ fl,hasOwn ⟨[some (.at .me),vI 0,y2,y3,vI 0,none,none,none,none],fl⟩ = false:=by intro fl;simp [hasOwn_eq,o2,o3]
    have h4:evE tabs (cl (n+3)) (.callM 0 11 (.cons (.str ⟨#[89]⟩) .nil)) ⟨[some (.at .me),vI 0,y2,y3,vI 0,none,none,none,none],mkP [] (121 :: t') ((([]:List Nat).length:Int)+1) (([]:List Nat).length:Int) ((([]:List Nat).length:Int)+1) f6 f7 f8⟩ = _:=E_callM rfl A_str rfl (ho _) hr
    rw [B_next (S_try ((B_next P_bra).trans ((B_skip (T_val ty (by simp))).trans ((B_next P_inc).trans ((B_next P_ket).trans ((B_next (S_expr h4)).trans B_nil))))) (by intro j h;cases h))]
    obtain ⟨L,c2,b2,k2,h5⟩:=mark_loop (n:=n) (f6:=f6) (f7:=f7) (f8:=f8) (x2:=y2) (x3:=y3) 1000 t' [89] none none none none (([]:List Nat).length:Int) ((([]:List Nat).length:Int)+1) o2 o3 rfl rfl rfl rfl hm (by simp at hm;omega)
    refine ⟨c2,b2,k2,?_⟩
    refine (congrArg retOf (B_next (S_while.trans h5))).trans ?_
    rw [B_ret (S_ret (v:=ab true) rfl rfl)]
    simp only [if_true]
    rfl
  · have e1:evS tabs (cl (n+3)) 1000 (.try 0 (.cons (.setf 4 (.fld 1)) (.cons (.ite (tAt 121) (.cons (.setf 1 (.var 4)) (.cons (.raise 0) .nil)) .nil) (.cons (.augf 1 .add (.int 1)) (.cons (.setf 5 (.fld 1)) (.cons (sl 89) .nil)))))) ⟨[some (.at .me),vI 0,y2,y3,vI 0,none,none,none,none],mkP [] m (([]:List Nat).length:Int) b1 k1 f6 f7 f8⟩ = _:=S_tryx ((B_next P_bra).trans (B_exc ((S_true (T_val ty (by simpa using hy))).trans ((B_next (P_cur (z:=(([]:List Nat).length:Int)) rfl)).trans B_raise))))
    rw [B_next e1]
    obtain ⟨L,c2,b2,k2,h5⟩:=mark_loop (n:=n) (f6:=f6) (f7:=f7) (f8:=f8) (x2:=y2) (x3:=y3) 1000 m [] none none none none (([]:List Nat).length:Int) k1 o2 o3 rfl rfl rfl rfl hm (by omega)
    refine ⟨c2,b2,k2,?_⟩
    refine (congrArg retOf (B_next (S_while.trans h5))).trans ?_
    rw [B_ret (S_ret (v:=ab true) rfl rfl)]
    cases m with
    | nil=>rfl
    | cons x t=>
      have hx:x ≠ 121:=by simpa using hy
      simp only [if_neg hx]
      rfl
end Mine
namespace Mine
noncomputable def bl:Bool→Nat→List Nat→List Nat
  | _,_,[]=>[]
  | pv,i,x :: r=>if pv && !isV x then (i+1) :: bl false (i+1) r else bl (isV x) (i+1) r
theorem bl_false:∀ (t:List Nat) (c:Nat),bl false c t = match t.findIdx? isV with | none=>[] | some i=>bl true (c+i+1) (t.drop (i+1))
  | [],_=>rfl
  | x :: t,c=>by
    rw [bl,List.findIdx?_cons]
    cases hx:isV x with
    | true=>simp
    | false=>
      have:=bl_false t (c+1)
      simp only [Bool.false_and,Bool.false_eq_true,if_false,this]
      cases t.findIdx? isV with
      | none=>rfl
      | some i=>
        show bl true (c+1+i+1) _ = bl true (c+(i+1)+1) _
        rw [show c+1+i+1 = c+(i+1)+1 by omega];rfl
theorem bl_true:∀ (t:List Nat) (c:Nat),bl true c t = match t.findIdx? (fun x=>!isV x) with | none=>[] | some j=>(c+j+1) :: bl false (c+j+1) (t.drop (j+1))
  | [],_=>rfl
  | x :: t,c=>by
    rw [bl,List.findIdx?_cons]
    cases hx:isV x with
    | false=>simp
    | true=>
      have:=bl_true t (c+1)
      simp only [Bool.not_true,Bool.and_false,Bool.false_eq_true,if_false,this]
      cases t.findIdx? (fun x=>!isV x) with
      | none=>rfl
      | some i=>
        show (c+1+i+1) :: _ = (c+(i+1)+1) :: _
        rw [show c+1+i+1 = c+(i+1)+1 by omega];rfl
noncomputable def first (l:List Nat):Nat:=match bl false 0 l with
  | []=>l.length
  | x :: _=>max 3 x
noncomputable def second (l:List Nat):Nat:=match bl false 0 l with
  | _ :: y :: _=>y
  | _=>l.length
noncomputable def p1of (l:List Nat):Nat:=if l.length < 3 then l.length else first l
noncomputable def p2of (l:List Nat):Nat:=if l.length < 3 then l.length else second l
section
variable {T:Tabs} {Γ:Call} {N:Nat} {σ:AS} {fl:FL}
end
variable {n:Nat} {l:List Nat} {b k:Int} {f6 f7 f8:Option Atom} {Γ:Call} {N:Nat} {loc:List (Option AV)}
theorem F_incN {c:Nat} {lim lb b k:Int}:evS tabs Γ N (.augf 1 .add (.int 1)) ⟨some (.at .me) :: loc,mkF l c lim lb b k f6 f7 f8⟩ = some (⟨some (.at .me) :: loc,mkF l ((c+1:Nat):Int) lim lb b k f6 f7 f8⟩,.next):=F_inc
theorem T_out {c:Nat} (hl:l.length < 1000) (hc:c ≤ l.length) (ho:∀ fl,hasOwn ⟨some (.at .me) :: loc,fl⟩ = false):evT tabs (cl (n+1)) (.not (.callM 0 5 (.cons (.cattr (.ofString "g_v")) .nil))) ⟨some (.at .me) :: loc,mkF l c l.length 0 b k f6 f7 f8⟩ =
    match (l.drop c).findIdx? isV with
    | some i=>some (false,mkF l ((c+i:Nat):Int) l.length 0 b k f6 f7 f8)
    | none=>some (true,mkF l l.length l.length 0 b k f6 f7 f8):=by
  have h:=go_out_spec (n:=n) (l:=l) (lb:=0) (b:=b) (k:=k) (f6:=f6) (f7:=f7) (f8:=f8) (a:=230) (by rfl) hl hc
  rw [show inSet 230 = isV from funext set230] at h
  cases hh:(l.drop c).findIdx? isV with
  | none=>rw [hh] at h;exact T_not ((E_callM rfl (A_cattr at_v) rfl (ho _) h))
  | some i=>rw [hh] at h;exact T_not ((E_callM rfl (A_cattr at_v) rfl (ho _) h))
theorem T_in {c:Nat} (hl:l.length < 1000) (hc:c ≤ l.length) (ho:∀ fl,hasOwn ⟨some (.at .me) :: loc,fl⟩ = false):evT tabs (cl (n+1)) (.not (.callM 0 4 (.cons (.cattr (.ofString "g_v")) .nil))) ⟨some (.at .me) :: loc,mkF l c l.length 0 b k f6 f7 f8⟩ =
    match (l.drop c).findIdx? (fun x=>!isV x) with
    | some i=>some (false,mkF l ((c+i:Nat):Int) l.length 0 b k f6 f7 f8)
    | none=>some (true,mkF l l.length l.length 0 b k f6 f7 f8):=by
  have h:=go_in_spec (n:=n) (l:=l) (lb:=0) (b:=b) (k:=k) (f6:=f6) (f7:=f7) (f8:=f8) (a:=230) (by rfl) hl hc
  rw [show (fun c=>!inSet 230 c) = (fun x=>!isV x) from funext fun x=>by rw [set230]] at h
  cases hh:(l.drop c).findIdx? (fun x=>!isV x) with
  | none=>rw [hh] at h;exact T_not ((E_callM rfl (A_cattr at_v) rfl (ho _) h))
  | some i=>rw [hh] at h;exact T_not ((E_callM rfl (A_cattr at_v) rfl (ho _) h))
theorem idx_lt {p:Nat→Bool} {t:List Nat} {i:Nat} (h:t.findIdx? p = some i):i < t.length:=by
  rcases find_split p t with ⟨h1,_⟩ | ⟨u,v,t',h1,h2,_⟩
  · rw [h1] at h;cases h
  · rw [h2] at h;cases h;rw [h1];simp
noncomputable abbrev Gv (o:Option (AV × FL)) (l:List Nat) (b k:Int) (p q:Nat) (f8:Option Atom):Prop:=∃ (v:Bool) (c:Int),o = some (ab v,mkF l c l.length 0 b k (aI p) (aI q) f8)
theorem regions_spec (hl:l.length < 900):Gv (cl (n+2) 16 [.at .me] (mkF l 0 l.length 0 b k f6 f7 f8)) l b k (p1of l) (p2of l) f8:=by
  rw [cl_at (F:=⟨1,_,c_r_mark_regions⟩) rfl rfl]
  show Gv (retOf (evB tabs (cl (n+1)) 1000 c_r_mark_regions ⟨[some (.at .me),none,none],mkF l 0 l.length 0 b k f6 f7 f8⟩)) _ _ _ _ _ _
  unfold c_r_mark_regions
  rw [B_next (σ':=⟨[some (.at .me),none,none],mkF l 0 l.length 0 b k (aI l.length) f7 f8⟩) (S_setf rfl (E_fld rfl rfl) rfl)]
  rw [B_next (σ':=⟨[some (.at .me),none,none],mkF l 0 l.length 0 b k (aI l.length) (aI l.length) f8⟩) (S_setf rfl (E_fld rfl rfl) rfl)]
  rw [B_next (σ':=⟨[some (.at .me),vI 0,none],mkF l 0 l.length 0 b k (aI l.length) (aI l.length) f8⟩) ((S_assign (E_fld rfl rfl) rfl rfl).trans rfl)]
  have t3:evT tabs (cl (n+1)) (.cmp .gt (.bin .add (.fld 1) (.int 3)) (.fld 2)) ⟨[some (.at .me),vI 0,none],mkF l 0 l.length 0 b k (aI l.length) (aI l.length) f8⟩ = some (decide (l.length < 3),mkF l 0 l.length 0 b k (aI l.length) (aI l.length) f8):=by
    have e:decide ((0:Int)+3 > l.length) = decide (l.length < 3):=decide_eq_decide.mpr (by omega)
    rw [←e]
    exact T_cmp (x:=ai (0+3)) (E_bin F_c E_int rfl) F_l rfl
  unfold p1of p2of
  by_cases h3:l.length < 3
  · rw [B_quit (T_val t3 (by simp [h3])),if_pos h3,if_pos h3]
    exact ⟨false,0,rfl⟩
  rw [B_skip (T_val t3 (by simp [h3])),if_neg h3,if_neg h3]
  unfold first second
  rw [bl_false l 0]
  rw [B_next (σ':=⟨[some (.at .me),vI 0,none],mkF l 3 l.length 0 b k (aI l.length) (aI l.length) f8⟩) (S_augf rfl rfl E_int rfl rfl)]
  rw [B_next (σ':=⟨[some (.at .me),vI 0,vI 3],mkF l 3 l.length 0 b k (aI l.length) (aI l.length) f8⟩) ((S_assign (E_fld rfl rfl) rfl rfl).trans rfl)]
  rw [B_next (σ':=⟨[some (.at .me),vI 0,vI 3],mkF l ((0:Nat):Int) l.length 0 b k (aI l.length) (aI l.length) f8⟩) (S_setf rfl (E_var rfl) rfl)]
  have o1:=T_out (n:=n) (l:=l) (b:=b) (k:=k) (f6:=aI l.length) (f7:=aI l.length) (f8:=f8) (loc:=[vI 0,vI 3]) (c:=0) (by omega) (by omega) (fun _=>rfl)
  rw [List.drop_zero] at o1
  cases hi:l.findIdx? isV with
  | none=>
    rw [hi] at o1
    rw [B_quit o1]
    exact ⟨false,_,rfl⟩
  | some i=>
    rw [hi] at o1
    have li:=idx_lt hi
    rw [B_skip o1,B_next F_incN]
    have o2:=T_in (n:=n) (l:=l) (b:=b) (k:=k) (f6:=aI l.length) (f7:=aI l.length) (f8:=f8) (loc:=[vI 0,vI 3]) (c:=0+i+1) (by omega) (by omega) (fun _=>rfl)
    simp only [bl_true]
    have ei:l.drop (0+i+1) = l.drop (i+1):=by rw [Nat.zero_add]
    rw [ei] at o2
    cases hj:(l.drop (i+1)).findIdx? (fun x=>!isV x) with
    | none=>
      rw [hj] at o2
      rw [B_quit o2]
      exact ⟨false,_,rfl⟩
    | some j=>
      rw [hj] at o2
      have lj:=idx_lt hj
      rw [List.length_drop] at lj
      rw [B_skip o2,B_next F_incN]
      obtain ⟨c2,hc2⟩:∃ c2,c2 = 0+i+1+j+1:=⟨_,rfl⟩
      rw [←hc2]
      have hd:(l.drop (i+1)).drop (j+1) = l.drop c2:=by rw [List.drop_drop,hc2];congr 1;omega
      simp only [bl_false,hd,←hc2]
      rw [B_next (σ':=⟨[some (.at .me),vI 0,vI 3],mkF l c2 l.length 0 b k (aI c2) (aI l.length) f8⟩) (S_setf rfl (E_fld rfl rfl) rfl)]
      have t6:evT tabs (cl (n+1)) (.cmp .ge (.fld 6) (.var 2)) ⟨[some (.at .me),vI 0,vI 3],mkF l c2 l.length 0 b k (aI c2) (aI l.length) f8⟩ = some (decide ((c2:Int) ≥ 3),mkF l c2 l.length 0 b k (aI c2) (aI l.length) f8):=T_cmp (E_fld rfl rfl) (E_var rfl) rfl
      have e6:evS tabs (cl (n+1)) 1000 (.try 0 (.cons (.ite (.cmp .ge (.fld 6) (.var 2)) (.cons (.raise 0) .nil) .nil) (.cons (.setf 6 (.var 2)) .nil))) ⟨[some (.at .me),vI 0,vI 3],mkF l c2 l.length 0 b k (aI c2) (aI l.length) f8⟩ = some (⟨[some (.at .me),vI 0,vI 3],mkF l c2 l.length 0 b k (aI ((max 3 c2:Nat):Int)) (aI l.length) f8⟩,.next):=by
        by_cases h:(c2:Int) ≥ 3
        · rw [S_tryx (B_lab (T_val t6 (by simpa using h)))]
          rw [show max 3 c2 = c2 by omega]
        · rw [S_try ((B_skip (T_val t6 (by simpa using h))).trans ((B_next (S_setf rfl (E_var rfl) rfl)).trans B_nil)) (by intro j h;cases h)]
          rw [show max 3 c2 = 3 by omega]
          rfl
      rw [B_next e6]
      have o3:=T_out (n:=n) (l:=l) (b:=b) (k:=k) (f6:=aI ((max 3 c2:Nat):Int)) (f7:=aI l.length) (f8:=f8) (loc:=[vI 0,vI 3]) (c:=c2) (by omega) (by omega) (fun _=>rfl)
      cases hi2:(l.drop c2).findIdx? isV with
      | none=>
        rw [hi2] at o3
        rw [B_quit o3]
        exact ⟨false,_,rfl⟩
      | some i2=>
        rw [hi2] at o3
        have li2:=idx_lt hi2
        rw [List.length_drop] at li2
        rw [B_skip o3,B_next F_incN]
        have o4:=T_in (n:=n) (l:=l) (b:=b) (k:=k) (f6:=aI ((max 3 c2:Nat):Int)) (f7:=aI l.length) (f8:=f8) (loc:=[vI 0,vI 3]) (c:=c2+i2+1) (by omega) (by omega) (fun _=>rfl)
        simp only [bl_true]
        have ed:(l.drop c2).drop (i2+1) = l.drop (c2+i2+1):=by rw [List.drop_drop];rfl
        rw [ed]
        cases hj2:(l.drop (c2+i2+1)).findIdx? (fun x=>!isV x) with
        | none=>
          rw [hj2] at o4
          rw [B_quit o4]
          exact ⟨false,_,rfl⟩
        | some j2=>
          rw [hj2] at o4
          rw [B_skip o4,B_next F_incN]
          rw [B_next (σ':=⟨[some (.at .me),vI 0,vI 3],mkF l ((c2+i2+1+j2+1:Nat):Int) l.length 0 b k (aI ((max 3 c2:Nat):Int)) (aI ((c2+i2+1+j2+1:Nat):Int)) f8⟩) (S_setf rfl (E_fld rfl rfl) rfl)]
          rw [B_ret (S_ret (v:=ab true) rfl rfl)]
          exact ⟨true,_,rfl⟩
end Mine
namespace Mine
section
variable {T:Tabs} {Γ:Call} {σ:AS} {fl fl':FL}
theorem E_comp {elt src:CE} {caps:List Nat} {x:AV} {its l:List Atom} {cs:List AV} (ho:hasOwn σ = false) (h:evE T Γ src σ = some (x,fl)) (hi:iterV x = some its) (hc:capsOf caps σ = some cs) (hm:evMapIf (fun a fl=>evE T Γ elt ⟨some (.at a) :: cs.map some,fl⟩) (fun _ fl=>some (true,fl)) its fl = some (l,fl')):evE T Γ (.comp elt src caps) σ = some (.list l,fl'):=by
  show (if hasOwn σ then none else ob (evE T Γ src σ) fun x fl=>(iterV x).bind fun its=>(capsOf caps σ).bind fun cs=>(evMapIf (fun a fl=>evE T Γ elt ⟨some (.at a) :: cs.map some,fl⟩) (fun _ fl=>some (true,fl)) its fl).map fun r=>(AV.list r.1,r.2)) = _
  rw [ho,h,hc]
  show (if false = true then none else (iterV x).bind fun its=>(evMapIf (fun a fl=>evE T Γ elt ⟨some (.at a) :: cs.map some,fl⟩) (fun _ fl=>some (true,fl)) its fl).map fun r=>(AV.list r.1,r.2)) = _
  rw [hi]
  exact congrArg (Option.map fun r:List Atom × FL=>(AV.list r.1,r.2)) hm
theorem MI_cons {f:Atom→FL→Option (AV × FL)} {a b:Atom} {r l:List Atom} {fl'':FL} (h:f a fl = some (.at b,fl')) (hr:evMapIf f (fun _ fl=>some (true,fl)) r fl' = some (l,fl'')):evMapIf f (fun _ fl=>some (true,fl)) (a :: r) fl = some (b :: l,fl''):=
  (congrArg (obA · fun b fl''=>(evMapIf f (fun _ fl=>some (true,fl)) r fl'').map fun x:List Atom × FL=>(b :: x.1,x.2)) h).trans (congrArg (Option.map fun x:List Atom × FL=>(b :: x.1,x.2)) hr)
theorem len_list {L:List Atom} (h:L.length < 1000):lenV (.list L) = some (ai L.length):=by
  show iff (small L.length) (some (ai L.length)) = _
  rw [sm h];rfl
theorem idx_lst {L:List Atom} {i:Nat} {a:Atom} (hd:L.length < 1000) (h:L[i]? = some a):idxV (.list L) (.at (.int i)) = some (.at a):=by
  show iff (decide (0 ≤ (i:Int))) (iff (small L.length) ((L[(i:Int).toNat]?).map AV.at)) = _
  rw [decide_eq_true (Int.natCast_nonneg i),sm hd,Int.toNat_natCast,h];rfl
theorem idx_own' {L:List Atom} {i:Nat} {a:Atom} (hd:L.length < 1000) (h:L[i]? = some a):idxV (.own L) (.at (.int i)) = some (.at a):=by
  show iff (decide (0 ≤ (i:Int))) (iff (small L.length) ((L[(i:Int).toNat]?).map AV.at)) = _
  rw [decide_eq_true (Int.natCast_nonneg i),sm hd,Int.toNat_natCast,h];rfl
theorem E_join {e:CE} {x v:AV} (h:evE T Γ e σ = some (x,fl)) (hj:joinV x = some v):evE T Γ (.join e) σ = some (v,fl):=
  (congrArg (ob · fun x fl=>(joinV x).map fun v=>(v,fl)) h).trans (congrArg (Option.map fun v=>(v,fl)) hj)
theorem E_tup2 {a b:CE} {x y:Int} (h1:evE T Γ a σ = some (ai x,σ.fl)) (h2:evE T Γ b σ = some (ai y,σ.fl)):evE T Γ (.tup (.cons a (.cons b .nil))) σ = some (.tup [.int x,.int y],σ.fl):=congrArg (obL · fun vs fl=>(listV vs).map fun as=>(AV.tup as,fl)) (A2 h1 h2)
theorem E_compIf {elt src cond:CE} {caps:List Nat} {x:AV} {its l:List Atom} {cs:List AV} (ho:hasOwn σ = false) (h:evE T Γ src σ = some (x,fl)) (hi:iterV x = some its) (hc:capsOf caps σ = some cs) (hm:evMapIf (fun a fl=>evE T Γ elt ⟨some (.at a) :: cs.map some,fl⟩) (fun a fl=>evT T Γ cond ⟨some (.at a) :: cs.map some,fl⟩) its fl = some (l,fl')):evE T Γ (.compIf elt src cond caps) σ = some (.list l,fl'):=by
  show (if hasOwn σ then none else ob (evE T Γ src σ) fun x fl=>(iterV x).bind fun its=>(capsOf caps σ).bind fun cs=>(evMapIf (fun a fl=>evE T Γ elt ⟨some (.at a) :: cs.map some,fl⟩) (fun a fl=>evT T Γ cond ⟨some (.at a) :: cs.map some,fl⟩) its fl).map fun r=>(AV.list r.1,r.2)) = _
  rw [ho,h,hc]
  show (if false = true then none else (iterV x).bind fun its=>(evMapIf (fun a fl=>evE T Γ elt ⟨some (.at a) :: cs.map some,fl⟩) (fun a fl=>evT T Γ cond ⟨some (.at a) :: cs.map some,fl⟩) its fl).map fun r=>(AV.list r.1,r.2)) = _
  rw [hi]
  exact congrArg (Option.map fun r:List Atom × FL=>(AV.list r.1,r.2)) hm
theorem MI_yes {f:Atom→FL→Option (AV × FL)} {c:Atom→FL→Option (Bool × FL)} {a b:Atom} {r l:List Atom} (hc:c a fl = some (true,fl)) (h:f a fl = some (.at b,fl)) (hr:evMapIf f c r fl = some (l,fl)):evMapIf f c (a :: r) fl = some (b :: l,fl):=
  (congrArg (otb · (fun fl'=>obA (f a fl') fun b fl''=>(evMapIf f c r fl'').map fun x:List Atom × FL=>(b :: x.1,x.2)) (fun fl'=>evMapIf f c r fl')) hc).trans ((congrArg (obA · fun b fl''=>(evMapIf f c r fl'').map fun x:List Atom × FL=>(b :: x.1,x.2)) h).trans (congrArg (Option.map fun x:List Atom × FL=>(b :: x.1,x.2)) hr))
theorem MI_no {f:Atom→FL→Option (AV × FL)} {c:Atom→FL→Option (Bool × FL)} {a:Atom} {r l:List Atom} (hc:c a fl = some (false,fl)) (hr:evMapIf f c r fl = some (l,fl)):evMapIf f c (a :: r) fl = some (l,fl):=
  (congrArg (otb · (fun fl'=>obA (f a fl') fun b fl''=>(evMapIf f c r fl'').map fun x:List Atom × FL=>(b :: x.1,x.2)) (fun fl'=>evMapIf f c r fl')) hc).trans hr
theorem iter_list {L:List Atom} (h:L.length < 1000):iterV (.list L) = some L:=by
  show iff (small L.length) (some L) = _
  rw [sm h];rfl
end
variable {n:Nat} {l:List Nat} {b k:Int} {f6 f7 f8:Option Atom} {Γ:Call} {N:Nat} {loc:List (Option AV)}
noncomputable def stemW (l:List Nat):List Nat:=((suffix (p1of (marked l)) (p2of (marked l)) (marked l).reverse).reverse).map unmark
theorem stem_spec (hl:l.length < 900):∃ (c lim b' k':Int) (g6 g7 g8:Option Atom),cl (n+8) 24 [.at .me] (mkF l 0 l.length 0 b k f6 f7 f8) = some (ab true,mkF (stemW l) c lim 0 b' k' g6 g7 g8):=by
  rw [cl_at (F:=⟨1,_,c_stem⟩) rfl rfl]
  show ∃ (c lim b' k':Int) (g6 g7 g8:Option Atom),retOf (evB tabs (cl (n+7)) 1000 c_stem ⟨[some (.at .me),none,none,none],mkF l 0 l.length 0 b k f6 f7 f8⟩) = _
  unfold c_stem stemW
  rw [B_next (σ':=⟨[some (.at .me),vI 0,none,none],mkF l 0 l.length 0 b k f6 f7 f8⟩) ((S_assign (E_fld rfl rfl) rfl rfl).trans rfl)]
  obtain ⟨c1,b1,k1,h1⟩:=prelude (n:=n+3) (b:=b) (k:=k) (f6:=f6) (f7:=f7) (f8:=f8) hl
  have hm:=marked_len l
  have q1:evE tabs (cl (n+7)) (.callM 0 15 .nil) ⟨[some (.at .me),vI 0,none,none],mkF l 0 l.length 0 b k f6 f7 f8⟩ = _:=E_callM rfl A_nil rfl rfl h1
  rw [B_next (S_expr q1)]
  clear q1 h1
  generalize marked l = m at hm
  rw [B_next (F_curv rfl)]
  rw [B_next (σ':=⟨[some (.at .me),vI 0,vI 0,none],mkF m 0 m.length 0 b1 k1 f6 f7 f8⟩) ((S_assign (E_fld rfl rfl) rfl rfl).trans rfl)]
  obtain ⟨v2,c2,h2⟩:=regions_spec (n:=n+5) (l:=m) (b:=b1) (k:=k1) (f6:=f6) (f7:=f7) (f8:=f8) (by omega)
  have q2:evE tabs (cl (n+7)) (.callM 0 16 .nil) ⟨[some (.at .me),vI 0,vI 0,none],mkF m 0 m.length 0 b1 k1 f6 f7 f8⟩ = _:=E_callM rfl A_nil rfl rfl h2
  rw [B_next (S_expr q2)]
  rw [B_next (F_curv rfl)]
  rw [B_next (σ':=⟨[some (.at .me),vI 0,vI 0,none],mkF m 0 m.length 0 b1 k1 (aI (p1of m)) (aI (p2of m)) f8⟩) (S_setf rfl (E_fld rfl rfl) rfl)]
  rw [B_next (σ':=⟨[some (.at .me),vI 0,vI 0,none],mkF m m.length m.length 0 b1 k1 (aI (p1of m)) (aI (p2of m)) f8⟩) (S_setf rfl (E_fld rfl rfl) rfl)]
  obtain ⟨c3,b3,k3,v8,h3⟩:=std_suffix (n:=n) (r:=m.reverse) (b:=b1) (k:=k1) (f8:=f8) (p:=p1of m) (q:=p2of m) (by rw [List.length_reverse];omega)
  have hsl:=suffix_len (p1of m) (p2of m) m.reverse
  rw [List.length_reverse] at hsl
  generalize suffix (p1of m) (p2of m) m.reverse = s at h3 hsl
  have e3:mkR m.reverse m.reverse.length b1 k1 (p1of m) (p2of m) f8 = mkF m m.length m.length 0 b1 k1 (aI (p1of m)) (aI (p2of m)) f8:=by simp only [mkR,List.reverse_reverse,List.length_reverse]
  rw [e3] at h3
  have q3:evE tabs (cl (n+7)) (.callM 0 23 .nil) ⟨[some (.at .me),vI 0,vI 0,none],mkF m m.length m.length 0 b1 k1 (aI (p1of m)) (aI (p2of m)) f8⟩ = _:=E_callM rfl A_nil rfl rfl h3
  rw [B_next (S_expr q3)]
  have e4:mkR s c3 b3 k3 (p1of m) (p2of m) (aB v8) = mkF s.reverse c3 s.reverse.length 0 b3 k3 (aI (p1of m)) (aI (p2of m)) (aB v8):=by simp only [mkR,List.length_reverse]
  rw [e4]
  rw [B_next (σ':=⟨[some (.at .me),vI 0,vI 0,none],mkF s.reverse 0 s.reverse.length 0 b3 k3 (aI (p1of m)) (aI (p2of m)) (aB v8)⟩) (S_setf rfl (E_fld rfl rfl) rfl)]
  rw [B_next (σ':=⟨[some (.at .me),vI 0,vI 0,vI 0],mkF s.reverse 0 s.reverse.length 0 b3 k3 (aI (p1of m)) (aI (p2of m)) (aB v8)⟩) ((S_assign (E_fld rfl rfl) rfl rfl).trans rfl)]
  obtain ⟨c5,b5,k5,h5⟩:=postlude (n:=n+3) (l:=s.reverse) (b:=b3) (k:=k3) (f6:=aI (p1of m)) (f7:=aI (p2of m)) (f8:=aB v8) (by rw [List.length_reverse];omega)
  have q5:evE tabs (cl (n+7)) (.callM 0 17 .nil) ⟨[some (.at .me),vI 0,vI 0,vI 0],mkF s.reverse 0 s.reverse.length 0 b3 k3 (aI (p1of m)) (aI (p2of m)) (aB v8)⟩ = _:=E_callM rfl A_nil rfl rfl h5
  rw [B_next (S_expr q5)]
  rw [B_next (F_curv rfl)]
  refine ⟨0,(s.reverse.map unmark).length,b5,k5,aI (p1of m),aI (p2of m),aB v8,?_⟩
  rw [B_ret (S_ret (v:=ab true) rfl rfl)]
  rfl
noncomputable def Nine (fl:FL):Prop:=∃ f0 f1 f2 f3 f4 f5 f6 f7 f8,fl = [f0,f1,f2,f3,f4,f5,f6,f7,f8]
theorem word_spec {fl:FL} (h:Nine fl) (hl:l.length < 900):∃ fl',Nine fl'∧cl (n+9) 13 [.at .me,as (tx l)] fl = some (as (tx (stemW l)),fl'):=by
  obtain ⟨f0,f1,f2,f3,f4,f5,f6,f7,f8,rfl⟩:=h
  rw [cl_at (F:=⟨2,_,c_stemWord⟩) rfl rfl]
  show ∃ fl',Nine fl'∧retOf (evB tabs (cl (n+8)) 1000 c_stemWord ⟨[some (.at .me),some (as (tx l))],[f0,f1,f2,f3,f4,f5,f6,f7,f8]⟩) = _
  unfold c_stemWord
  have h1:=set_spec (n:=n+7) (l:=l) (by simp only [small,decide_eq_true_eq];omega) f0 f1 f2 f3 f4 f5 f6 f7 f8
  have a1:evA tabs (cl (n+8)) (.cons (.var 1) .nil) ⟨[some (.at .me),some (as (tx l))],[f0,f1,f2,f3,f4,f5,f6,f7,f8]⟩ = some ([as (tx l)],[f0,f1,f2,f3,f4,f5,f6,f7,f8]):=A1 (E_var rfl)
  have q1:evE tabs (cl (n+8)) (.callM 0 1 (.cons (.var 1) .nil)) ⟨[some (.at .me),some (as (tx l))],[f0,f1,f2,f3,f4,f5,f6,f7,f8]⟩ = _:=E_callM rfl a1 rfl rfl h1
  rw [B_next (S_expr q1)]
  obtain ⟨c,lim,b',k',g6,g7,g8,h2⟩:=stem_spec (n:=n) (l:=l) (b:=0) (k:=l.length) (f6:=f6) (f7:=f7) (f8:=f8) hl
  have q2:evE tabs (cl (n+8)) (.callM 0 24 .nil) ⟨[some (.at .me),some (as (tx l))],mkF l 0 l.length 0 0 l.length f6 f7 f8⟩ = _:=E_callM rfl A_nil rfl rfl h2
  rw [B_next (S_expr q2)]
  have h3:=get_spec (n:=n+7) (l:=stemW l) (c:=c) (lim:=lim) (lb:=0) (b:=b') (k:=k') (f6:=g6) (f7:=g7) (f8:=g8)
  have h4:evE tabs (cl (n+8)) (.callM 0 2 .nil) ⟨[some (.at .me),some (as (tx l))],mkF (stemW l) c lim 0 b' k' g6 g7 g8⟩ = _:=E_callM rfl A_nil rfl rfl h3
  refine ⟨mkF (stemW l) c lim 0 b' k' g6 g7 g8,⟨_,_,_,_,_,_,_,_,_,rfl⟩,?_⟩
  rw [B_ret (S_ret h4 rfl)]
  rfl
theorem words_spec {fl:FL} (h:Nine fl) {u v:List Nat} (hu:u.length < 900) (hv:v.length < 900):∃ fl',Nine fl'∧cl (n+10) 14 [.at .me,.list [.str (tx u),.str (tx v)]] fl = some (.list [.str (tx (stemW u)),.str (tx (stemW v))],fl'):=by
  obtain ⟨fl1,n1,h1⟩:=word_spec (n:=n) h hu
  obtain ⟨fl2,n2,h2⟩:=word_spec (n:=n) n1 hv
  refine ⟨fl2,n2,?_⟩
  rw [cl_at (F:=⟨2,_,c_stemWords⟩) rfl rfl]
  show retOf (evB tabs (cl (n+9)) 1000 c_stemWords ⟨[some (.at .me),some (.list [.str (tx u),.str (tx v)])],fl⟩) = _
  have e:∀ (x y:List Nat) (fl fl':FL),cl (n+9) 13 [.at .me,as (tx x)] fl = some (as (tx y),fl')→evE tabs (cl (n+9)) (.callM 1 13 (.cons (.var 0) .nil)) ⟨[some (as (tx x)),some (.at .me)],fl⟩ = some (as (tx y),fl'):=by
    intro x y fl fl' hc
    exact E_callM rfl (show evA tabs (cl (n+9)) (.cons (.var 0) .nil) ⟨[some (as (tx x)),some (.at .me)],fl⟩ = some ([as (tx x)],fl) from A1 (E_var rfl)) rfl rfl hc
  have e1:=e _ _ _ _ h1
  have e2:=e _ _ _ _ h2
  have hc:evE tabs (cl (n+9)) (.comp (.callM 1 13 (.cons (.var 0) .nil)) (.var 1) [0]) ⟨[some (.at .me),some (.list [.str (tx u),.str (tx v)])],fl⟩ = some (.list [.str (tx (stemW u)),.str (tx (stemW v))],fl2):=E_comp (its:=[.str (tx u),.str (tx v)]) (cs:=[.at .me]) rfl (E_var rfl) rfl rfl (MI_cons e1 (MI_cons e2 rfl))
  unfold c_stemWords
  rw [B_ret (S_ret hc rfl)]
  rfl
end Mine
namespace Mine
section
variable {T:Tabs} {Γ:Call} {N:Nat} {σ:AS}
end
theorem strsOf_map:∀ l:List Nat,strsOf (l.map fun x=>Atom.str (chr1 x)) = some (l.map chr1)
  | []=>rfl
  | x :: l=>by rw [List.map_cons,strsOf,strsOf_map l];rfl
theorem any_chr:∀ (l:List Nat) (x:Nat),(l.map chr1).any (· == chr1 x) = l.contains x
  | [],_=>rfl
  | a :: l,x=>by
    rw [List.map_cons,List.any_cons,any_chr l x,chr1_inj,List.contains_cons]
    have:(a == x) = (x == a):=by
      by_cases h:a = x
      · subst h;rfl
      · rw [beq_eq_false_iff_ne.mpr h,beq_eq_false_iff_ne.mpr (Ne.symm h)]
    rw [this]
noncomputable def setL (l:List Nat):AV:=.list (l.map fun x=>Atom.str (chr1 x))
theorem inV_set (l:List Nat) (x:Nat):inV (chr1 x) (setL l) = some (l.contains x):=by
  show (strsOf (l.map fun x=>Atom.str (chr1 x))).map (fun xs=>xs.any (· == chr1 x)) = _
  rw [strsOf_map,Option.map_some,any_chr]
noncomputable abbrev vow:List Nat:=[97,101,105,111,117,121,232]
theorem glob_v {Γ:Call} {σ:AS}:evE tabs Γ (.glob (.ofString "_law_vowels")) σ = some (setL vow,σ.fl):=by
  have h:tabs.glob (.ofString "_law_vowels") = some (setL vow):=by
    have h1:¬ ((.ofString "_law_vowels":Str) = .ofString "_law_signs"):=by decide +kernel
    show (if (Str.ofString "_law_vowels") = .ofString "_law_signs" then some (AV.at (.str signsS)) else if (Str.ofString "_law_vowels") = .ofString "_law_vowels" then some (AV.list vowelsL) else none) = _
    rw [if_neg h1,if_pos rfl];rfl
  exact congrArg (Option.map fun v=>(v,σ.fl)) h
variable {n:Nat} {Γ:Call} {N:Nat} {fl:FL} {r e s w:List Nat}
theorem ends_R {y:List Nat} (hr:r.length < 1000) (hy:y.length < 1000):endsV (as (tx r.reverse)) (as (tx y)) = some (ab (y.reverse.isPrefixOf r)):=by
  have:=ends_tx (x:=r.reverse) (y:=y) (sm (by simpa using hr)) (sm hy)
  rw [List.isSuffixOf,List.reverse_reverse] at this
  exact this
theorem cut_R (h:(e ++ s).length < 1000):sliceV (as (tx (e ++ s).reverse)) none (some (s.length:Int)) = some (as (tx s.reverse)):=by
  have h':=h
  rw [List.length_append] at h'
  show sliceV (.at (.str (tx (e ++ s).reverse))) none (some (s.length:Int)) = _
  rw [to_tx (sm (by rw [List.length_reverse];exact h)) (by omega),take_es]
theorem len_R (h:r.length < 1000):lenV (as (tx r.reverse)) = some (ai r.length):=by
  have:=len_tx (y:=r.reverse) (sm (by simpa using h))
  rw [List.length_reverse] at this
  exact this
noncomputable def pick (w:List Nat) (f e:List Nat):List Nat:=if e.isSuffixOf w && decide (e.length > f.length) then e else f
noncomputable def lend (ends:List (List Nat)) (w:List Nat):List Nat:=ends.foldl (pick w) []
noncomputable abbrev kEnd:CB:=(.cons (.ite (.and (.cons (.endswith (.var 0) (.var 3)) (.cons (.cmp .gt (.len (.var 3)) (.len (.var 2))) .nil))) (.cons (.assign 2 (.var 3)) .nil) .nil) .nil)
theorem ending_loop {A:AV} (hw:w.length < 1000):∀ (es:List (List Nat)) (f:List Nat) (x:Option AV),(∀ e ∈ es,e.length < 1000)→f.length < 1000→okv x = true→
    ∃ x',forN 3 (fun σ=>evB tabs (cl n) 1000 kEnd σ) (es.map fun e=>Atom.str (tx e)) ⟨[some (as (tx w)),some A,some (as (tx f)),x],fl⟩ = some (⟨[some (as (tx w)),some A,some (as (tx (es.foldl (pick w) f))),x'],fl⟩,.next)
  | [],f,x,_,_,_=>⟨x,rfl⟩
  | e :: es,f,x,he,hf,hx=>by
    have he0:e.length < 1000:=he e (by simp)
    have hp:(pick w f e).length < 1000:=by unfold pick;split<;>assumption
    obtain ⟨x',ih⟩:=ending_loop hw es (pick w f e) (some (as (tx e))) (fun y hy=>he y (by simp [hy])) hp rfl
    refine ⟨x',?_⟩
    rw [List.map_cons]
    refine (for_next (σ':=⟨[some (as (tx w)),some A,some (as (tx (pick w f e))),some (as (tx e))],fl⟩) (by simp [okSet_eq,hx]) ?_).trans ih
    show evB tabs (cl n) 1000 kEnd ⟨[some (as (tx w)),some A,some (as (tx f)),some (as (tx e))],fl⟩ = _
    have t:evT tabs (cl n) (.and (.cons (.endswith (.var 0) (.var 3)) (.cons (.cmp .gt (.len (.var 3)) (.len (.var 2))) .nil))) ⟨[some (as (tx w)),some A,some (as (tx f)),some (as (tx e))],fl⟩ = some (e.isSuffixOf w && decide (e.length > f.length),fl):=by
      refine T_of (E_and2 (E_ends (E_var rfl) (E_var rfl) (ends_tx (sm hw) (sm he0))) (fun _=>E_cmp (E_len (E_var rfl) (len_tx (sm he0))) (E_len (E_var rfl) (len_tx (sm hf))) ?_))
      show some (decide ((e.length:Int) > f.length)) = _
      rw [decide_eq_decide.mpr (show (e.length:Int) > f.length ↔ e.length > f.length by omega)]
    unfold pick
    cases hh:e.isSuffixOf w && decide (e.length > f.length) with
    | true=>
      rw [hh] at t
      exact (B_next ((S_true t).trans ((B_next (S_assign (E_var rfl) rfl rfl)).trans B_nil))).trans B_nil
    | false=>
      rw [hh] at t
      exact (B_skip t).trans B_nil
theorem ending_spec {es:List (List Nat)} (hw:w.length < 1000) (he:∀ e ∈ es,e.length < 1000) (hs:es.length < 1000):cl (n+1) 30 [as (tx w),.list (es.map fun e=>Atom.str (tx e))] fl = some (as (tx (lend es w)),fl):=by
  rw [cl_at (F:=⟨2,_,c_law_ending⟩) rfl rfl]
  obtain ⟨x',h⟩:=ending_loop (n:=n) (fl:=fl) (A:=.list (es.map fun e=>Atom.str (tx e))) hw es [] none he (by decide) rfl
  show retOf (evB tabs (cl n) 1000 (.cons (.assign 2 (.str ⟨#[]⟩)) (.cons (.for 3 (.var 1) kEnd) (.cons (.ret (.var 2)) .nil))) ⟨[some (as (tx w)),some (.list (es.map fun e=>Atom.str (tx e))),none,none],fl⟩) = _
  rw [B_next (σ':=⟨[some (as (tx w)),some (.list (es.map fun e=>Atom.str (tx e))),some (as (tx [])),none],fl⟩) (S_assign E_str rfl rfl)]
  have hf:evS tabs (cl n) 1000 (.for 3 (.var 1) kEnd) ⟨[some (as (tx w)),some (.list (es.map fun e=>Atom.str (tx e))),some (as (tx [])),none],fl⟩ = some (⟨[some (as (tx w)),some (.list (es.map fun e=>Atom.str (tx e))),some (as (tx (es.foldl (pick w) []))),x'],fl⟩,.next):=(S_for (E_var rfl) (iter_list (by rw [List.length_map];exact hs))).trans h
  rw [B_next hf,B_ret (S_ret (v:=as (tx (lend es w))) (E_var rfl) rfl)]
  rfl
theorem shut_spec {x:Nat} {S:AV} {v:Bool} (h:(x :: s).length < 1000) (hS:S.isSt = true) (hv:inV (chr1 x) S = some v):cl (n+1) 31 [as (tx (x :: s).reverse),S] fl = some (ab (!v),fl):=by
  rw [cl_at (F:=⟨2,_,c_law_shut⟩) rfl rfl]
  show retOf (evB tabs (cl n) 1000 c_law_shut ⟨[some (as (tx (x :: s).reverse)),some S],fl⟩) = _
  unfold c_law_shut
  have hi:=idx_R (e:=[]) (x:=x) (s:=s) h
  have hl:(((x :: s).length:Int) - 1) = s.length:=by simp
  have e:evE tabs (cl n) (.cmp .notin (.idx (.var 0) (.bin .sub (.len (.var 0)) (.int 1))) (.var 1)) ⟨[some (as (tx (x :: s).reverse)),some S],fl⟩ = some (ab (!v),fl):=by
    refine E_cmp (E_idx (v:=as (chr1 x)) (E_var rfl) (E_bin (E_len (E_var rfl) (len_R h)) E_int rfl) ?_) (E_var rfl) ?_
    · rw [hl];exact hi
    · show (inV (chr1 x) S).map (!·) = _
      rw [hv];rfl
  rw [B_ret (S_ret e rfl)]
  rfl
end Mine
namespace Mine
variable {n:Nat} {Γ:Call} {N:Nat} {fl:FL} {r e s w:List Nat}
section
variable {T:Tabs} {σ:AS}
noncomputable def strsCA:List (List Nat)→CA
  | []=>.nil
  | e :: r=>.cons (.str (tx e)) (strsCA r)
noncomputable def strsL (es:List (List Nat)):AV:=.list (es.map fun e=>Atom.str (tx e))
theorem A_strs:∀ es:List (List Nat),evA T Γ (strsCA es) σ = some (es.map fun e=>as (tx e),σ.fl)
  | []=>rfl
  | _ :: r=>A_cons E_str (A_strs r)
theorem atomsOf_strs:∀ es:List (List Nat),atomsOf (es.map fun e=>as (tx e)) = some (es.map fun e=>Atom.str (tx e))
  | []=>rfl
  | e :: r=>by rw [List.map_cons,as,atomsOf,atomsOf_strs r];rfl
theorem E_strs {es:List (List Nat)} (h:es.length < 1000):evE T Γ (.list (strsCA es)) σ = some (strsL es,σ.fl):=by
  refine (congrArg (obL · fun vs fl=>(listV vs).map fun as=>(AV.list as,fl)) (A_strs es)).trans ?_
  show (((atomsOf (es.map fun e=>as (tx e))).bind fun l=>iff (small l.length) (some l)).map fun as=>(AV.list as,σ.fl)) = _
  rw [atomsOf_strs]
  show ((iff (small (es.map fun e=>Atom.str (tx e)).length) (some (es.map fun e=>Atom.str (tx e)))).map fun as=>(AV.list as,σ.fl)) = _
  rw [List.length_map,sm h];rfl
end
theorem tx_beq (a b:List Nat):(tx a == tx b) = (a == b):=by
  by_cases h:a = b
  · subst h;simp
  · rw [beq_eq_false_iff_ne.mpr h]
    refine beq_eq_false_iff_ne.mpr fun q=>h ?_
    have:(tx a).cps.toList = (tx b).cps.toList:=by rw [q]
    simpa [tx] using this
theorem sfx (y r:List Nat):y.isSuffixOf r.reverse = y.reverse.isPrefixOf r:=by rw [List.isSuffixOf,List.reverse_reverse]
theorem lend2 (r:List Nat):(lend [[100,100],[107,107],[116,116]] r.reverse == []) = !dbl r:=by
  unfold lend dbl
  simp only [List.foldl_cons,List.foldl_nil,pick,sfx,List.reverse_cons,List.reverse_nil,List.nil_append,List.cons_append]
  cases [100,100].isPrefixOf r<;>cases [107,107].isPrefixOf r<;>cases [116,116].isPrefixOf r<;>rfl
theorem single_spec (hr:r.length < 1000):cl (n+2) 32 [as (tx r.reverse)] fl = some (as (tx (single r).reverse),fl):=by
  rw [cl_at (F:=⟨1,_,c_law_single⟩) rfl rfl]
  show retOf (evB tabs (cl (n+1)) 1000 (.cons (.ret (.ite (.cmp .eq (.callG 30 (.cons (.var 0) (.cons (.list (strsCA [[100,100],[107,107],[116,116]])) .nil))) (.str (tx []))) (.var 0) (.sliceTo (.var 0) (.bin .sub (.len (.var 0)) (.int 1))))) .nil) ⟨[some (as (tx r.reverse))],fl⟩) = _
  have he:=ending_spec (n:=n) (fl:=fl) (w:=r.reverse) (es:=[[100,100],[107,107],[116,116]]) (by simpa using hr) (by decide) (by decide)
  have hc:evE tabs (cl (n+1)) (.callG 30 (.cons (.var 0) (.cons (.list (strsCA [[100,100],[107,107],[116,116]])) .nil))) ⟨[some (as (tx r.reverse))],fl⟩ = _:=E_callG (A2 (E_var rfl) (E_strs (by decide))) rfl rfl he
  have ht:evE tabs (cl (n+1)) (.cmp .eq (.callG 30 (.cons (.var 0) (.cons (.list (strsCA [[100,100],[107,107],[116,116]])) .nil))) (.str (tx []))) ⟨[some (as (tx r.reverse))],fl⟩ = some (ab (!dbl r),fl):=by
    refine E_cmp hc E_str ?_
    show some (tx _ == tx []) = _
    rw [tx_beq,lend2]
  have hx:evE tabs (cl (n+1)) (.ite (.cmp .eq (.callG 30 (.cons (.var 0) (.cons (.list (strsCA [[100,100],[107,107],[116,116]])) .nil))) (.str (tx []))) (.var 0) (.sliceTo (.var 0) (.bin .sub (.len (.var 0)) (.int 1)))) ⟨[some (as (tx r.reverse))],fl⟩ = some (as (tx (single r).reverse),fl):=by
    rw [E_ite ht]
    unfold single
    cases hd:dbl r with
    | false=>rw [if_pos (show (!false) = true from rfl)];exact E_var rfl
    | true=>
      rw [if_neg (show ¬ ((!true) = true) by decide)]
      obtain ⟨x,s,rfl⟩:∃ x s,r = x :: s:=by
        cases r with
        | nil=>simp [dbl,List.isPrefixOf] at hd
        | cons x s=>exact ⟨x,s,rfl⟩
      exact E_sliceTo (h:=s.length) (E_var rfl) (E_bin (E_len (E_var rfl) (len_R hr)) E_int (sub_ai (by simp))) (cut_R (e:=[x]) hr)
  rw [B_ret (S_ret hx rfl)]
  rfl
noncomputable def shutBy (v:Nat→Bool):List Nat→Bool
  | []=>false
  | x :: _=>!v x
theorem call_shut {σ:AS} {i:Nat} {S:CE} {v:Nat→Bool} {L:List Nat} (hS:evE tabs (cl (n+1)) S σ = some (setL L,σ.fl)) (hv:∀ x,L.contains x = v x) (hi:σ.loc[i]? = some (some (as (tx s.reverse)))) (ho:hasOwn σ = false) (hs:s.length < 1000) (hne:s ≠ []) :
    evE tabs (cl (n+1)) (.callG 31 (.cons (.var i) (.cons S .nil))) σ = some (ab (shutBy v s),σ.fl):=by
  obtain ⟨x,t,rfl⟩:∃ x t,s = x :: t:=by
    cases s with
    | nil=>exact absurd rfl hne
    | cons x t=>exact ⟨x,t,rfl⟩
  refine E_callG (A2 (E_var hi) hS) rfl ho ?_
  have:=shut_spec (n:=n) (fl:=σ.fl) (x:=x) (s:=t) (S:=setL L) (v:=L.contains x) hs rfl (inV_set L x)
  rw [this,hv];rfl
theorem shut_eq (s:List Nat):shutBy isV s = shut s:=by cases s<;>rfl
theorem less_en_spec {p:Nat} {y:List Nat} (hy:y.length = e.length) (h:(e ++ s).length < 1000) (hp:p ≤ s.length→s ≠ []):cl (n+3) 33 [as (tx (e ++ s).reverse),as (tx y),ai p] fl = some (as (tx (lessEn p (e ++ s) s).reverse),fl):=by
  have h':=h
  rw [List.length_append] at h'
  rw [cl_at (F:=⟨3,_,c_law_less_en⟩) rfl rfl]
  show retOf (evB tabs (cl (n+2)) 1000 c_law_less_en ⟨[some (as (tx (e ++ s).reverse)),some (as (tx y)),some (ai p),none],fl⟩) = _
  unfold c_law_less_en
  have hcut:evE tabs (cl (n+2)) (.sliceTo (.var 0) (.bin .sub (.len (.var 0)) (.len (.var 1)))) ⟨[some (as (tx (e ++ s).reverse)),some (as (tx y)),some (ai p),none],fl⟩ = some (as (tx s.reverse),fl):=by
    exact E_sliceTo (h:=s.length) (E_var rfl) (E_bin (E_len (E_var rfl) (len_R h)) (E_len (E_var rfl) (len_tx (sm (by omega)))) (sub_ai (by rw [List.length_append];omega))) (cut_R h)
  rw [B_next (σ':=⟨[some (as (tx (e ++ s).reverse)),some (as (tx y)),some (ai p),some (as (tx s.reverse))],fl⟩) (S_assign hcut rfl rfl)]
  have t:evT tabs (cl (n+2)) (.and (.cons (.cmp .ge (.len (.var 3)) (.var 2)) (.cons (.callG 31 (.cons (.var 3) (.cons (.glob (.ofString "_law_vowels")) .nil))) (.cons (.not (.endswith (.var 3) (.str ⟨#[103,101,109]⟩))) .nil)))) ⟨[some (as (tx (e ++ s).reverse)),some (as (tx y)),some (ai p),some (as (tx s.reverse))],fl⟩ = some (decide (p ≤ s.length) && (shut s && !gem s),fl):=by
    refine T_of (E_and3 (E_cmp (E_len (E_var rfl) (len_R (by omega))) (E_var rfl) ?_) (fun hq=>?_) (fun _ _=>E_not (E_ends (E_var rfl) E_str (ends_R (r:=s) (y:=[103,101,109]) (by omega) (by decide)))))
    · show some (decide ((s.length:Int) ≥ p)) = _
      rw [decide_eq_decide.mpr (show (s.length:Int) ≥ p ↔ p ≤ s.length by omega)]
    · have hne:=hp (of_decide_eq_true hq)
      rw [←shut_eq]
      exact call_shut (n:=n+1) (v:=isV) glob_v (fun x=>rfl) (by rfl) (by rfl) (by omega) hne
  unfold lessEn
  cases hh:decide (p ≤ s.length) && (shut s && !gem s) with
  | true=>
    rw [hh] at t
    have hsg:=single_spec (n:=n) (fl:=fl) (r:=s) (by omega)
    have hc:evE tabs (cl (n+2)) (.callG 32 (.cons (.var 3) .nil)) ⟨[some (as (tx (e ++ s).reverse)),some (as (tx y)),some (ai p),some (as (tx s.reverse))],fl⟩ = _:=E_callG (A1 (E_var rfl)) rfl rfl hsg
    rw [B_ret ((S_true t).trans (B_ret (S_ret hc rfl)))]
    rfl
  | false=>
    rw [hh] at t
    rw [B_skip t,B_ret (S_ret (v:=as (tx (e ++ s).reverse)) (E_var rfl) rfl)]
    rfl
theorem less_e_spec {p:Nat} (h:r.length < 1000) (hp:∀ x s,r = x :: s→p ≤ s.length→s ≠ []):cl (n+3) 34 [as (tx r.reverse),ai p] fl = some (as (tx ((lessE p r).getD r).reverse),fl):=by
  rw [cl_at (F:=⟨2,_,c_law_less_e⟩) rfl rfl]
  show retOf (evB tabs (cl (n+2)) 1000 c_law_less_e ⟨[some (as (tx r.reverse)),some (ai p),none],fl⟩) = _
  unfold c_law_less_e
  have t0:evT tabs (cl (n+2)) (.endswith (.var 0) (.str ⟨#[101]⟩)) ⟨[some (as (tx r.reverse)),some (ai p),none],fl⟩ = some ([101].isPrefixOf r,fl):=T_of (E_ends (E_var rfl) E_str (ends_R (r:=r) (y:=[101]) h (by decide)))
  rcases r with _ | ⟨x,s⟩
  · rw [B_skip (T_val t0 rfl),B_ret (S_ret (v:=as (tx [].reverse)) (E_var rfl) rfl)]
    rfl
  have h':s.length < 999:=by simp only [List.length_cons] at h;omega
  have hpx:[101].isPrefixOf (x :: s) = (x == 101):=by
    have:(101 == x) = (x == 101):=by
      by_cases q:x = 101
      · subst q;rfl
      · rw [beq_eq_false_iff_ne.mpr q,beq_eq_false_iff_ne.mpr (Ne.symm q)]
    simp [List.isPrefixOf,this]
  rw [hpx] at t0
  cases hx:x == 101 with
  | false=>
    rw [hx] at t0
    have hv:lessE p (x :: s) = none:=by simp only [lessE,hx];rfl
    rw [B_skip t0,B_ret (S_ret (v:=as (tx (x :: s).reverse)) (E_var rfl) rfl),hv]
    rfl
  | true=>
    rw [hx] at t0
    have hcut:evE tabs (cl (n+2)) (.sliceTo (.var 0) (.bin .sub (.len (.var 0)) (.int 1))) ⟨[some (as (tx (x :: s).reverse)),some (ai p),none],fl⟩ = some (as (tx s.reverse),fl):=by
      exact E_sliceTo (h:=s.length) (E_var rfl) (E_bin (E_len (E_var rfl) (len_R h)) E_int (sub_ai (by simp))) (cut_R (e:=[x]) h)
    have t:evT tabs (cl (n+2)) (.and (.cons (.cmp .ge (.len (.var 2)) (.var 1)) (.cons (.callG 31 (.cons (.var 2) (.cons (.glob (.ofString "_law_vowels")) .nil))) .nil))) ⟨[some (as (tx (x :: s).reverse)),some (ai p),some (as (tx s.reverse))],fl⟩ = some (decide (p ≤ s.length) && shut s,fl):=by
      refine T_of (E_and2 (E_cmp (E_len (E_var rfl) (len_R (by omega))) (E_var rfl) ?_) (fun hq=>?_))
      · show some (decide ((s.length:Int) ≥ p)) = _
        rw [decide_eq_decide.mpr (show (s.length:Int) ≥ p ↔ p ≤ s.length by omega)]
      · have hne:=hp x s rfl (of_decide_eq_true hq)
        rw [←shut_eq]
        exact call_shut (n:=n+1) (v:=isV) glob_v (fun x=>rfl) (by rfl) (by rfl) (by omega) hne
    have a2:evS tabs (cl (n+2)) 1000 (.assign 2 (.sliceTo (.var 0) (.bin .sub (.len (.var 0)) (.int 1)))) ⟨[some (as (tx (x :: s).reverse)),some (ai p),none],fl⟩ = some (⟨[some (as (tx (x :: s).reverse)),some (ai p),some (as (tx s.reverse))],fl⟩,.next):=S_assign hcut rfl rfl
    cases hh:decide (p ≤ s.length) && shut s with
    | true=>
      rw [hh] at t
      have hsg:=single_spec (n:=n) (fl:=fl) (r:=s) (by omega)
      have hc:evE tabs (cl (n+2)) (.callG 32 (.cons (.var 2) .nil)) ⟨[some (as (tx (x :: s).reverse)),some (ai p),some (as (tx s.reverse))],fl⟩ = _:=E_callG (A1 (E_var rfl)) rfl rfl hsg
      rw [B_ret ((S_true t0).trans ((B_next a2).trans (B_ret ((S_true t).trans (B_ret (S_ret hc rfl))))))]
      have hv:lessE p (x :: s) = some (single s):=by simp only [lessE,hx,hh];rfl
      rw [hv]
      rfl
    | false=>
      rw [hh] at t
      rw [B_next ((S_true t0).trans ((B_next a2).trans ((B_skip t).trans B_nil))),B_ret (S_ret (v:=as (tx (x :: s).reverse)) (E_var rfl) rfl)]
      have hv:lessE p (x :: s) = none:=by simp only [lessE,hx,hh];rfl
      rw [hv]
      rfl
end Mine
namespace Mine
variable {n:Nat} {Γ:Call} {N:Nat} {fl:FL} {l:List Nat}
theorem evMap_eq {α:Type} {f:Atom→FL→Option (AV × FL)} {g h:α→Atom}:∀ l:List α,(∀ x ∈ l,f (g x) fl = some (.at (h x),fl))→evMapIf f (fun _ fl=>some (true,fl)) (l.map g) fl = some (l.map h,fl)
  | [],_=>rfl
  | x :: l,q=>MI_cons (q x (List.mem_cons_self ..)) (evMap_eq l fun y hy=>q y (List.mem_cons_of_mem _ hy))
theorem iter_str {l:List Nat} (h:l.length < 1000):iterV (as (tx l)) = some (l.map fun c=>Atom.str (chr1 c)):=by
  show iff (small l.length) (some (l.map fun c=>Atom.str (chr1 c))) = _
  rw [sm h];rfl
noncomputable def bareD:List (Str × Str):=[(⟨#[225]⟩,⟨#[97]⟩),(⟨#[228]⟩,⟨#[97]⟩),(⟨#[233]⟩,⟨#[101]⟩),(⟨#[235]⟩,⟨#[101]⟩),(⟨#[237]⟩,⟨#[105]⟩),(⟨#[239]⟩,⟨#[105]⟩),(⟨#[243]⟩,⟨#[111]⟩),(⟨#[246]⟩,⟨#[111]⟩),(⟨#[250]⟩,⟨#[117]⟩),(⟨#[252]⟩,⟨#[117]⟩)]
theorem chr_eq (a x:Nat):((⟨#[a]⟩:Str) = chr1 x) ↔ a = x:=by
  constructor
  · intro h
    have:(⟨#[a]⟩:Str).cps = (chr1 x).cps:=congrArg Str.cps h
    simpa [chr1] using this
  · rintro rfl;rfl
theorem bare_get (x:Nat):(dictGet (chr1 x) bareD = some (chr1 (bare x))) ∨ (dictGet (chr1 x) bareD = none∧bare x = x):=by
  unfold bareD
  simp only [dictGet,chr_eq]
  unfold bare
  by_cases h1:x = 225
  · subst h1;exact .inl rfl
  by_cases h2:x = 228
  · subst h2;exact .inl rfl
  by_cases h3:x = 233
  · subst h3;exact .inl rfl
  by_cases h4:x = 235
  · subst h4;exact .inl rfl
  by_cases h5:x = 237
  · subst h5;exact .inl rfl
  by_cases h6:x = 239
  · subst h6;exact .inl rfl
  by_cases h7:x = 243
  · subst h7;exact .inl rfl
  by_cases h8:x = 246
  · subst h8;exact .inl rfl
  by_cases h9:x = 250
  · subst h9;exact .inl rfl
  by_cases h10:x = 252
  · subst h10;exact .inl rfl
  refine .inr ⟨?_,?_⟩
  · simp [Ne.symm h1,Ne.symm h2,Ne.symm h3,Ne.symm h4,Ne.symm h5,Ne.symm h6,Ne.symm h7,Ne.symm h8,Ne.symm h9,Ne.symm h10]
  · simp [h1,h2,h3,h4,h5,h6,h7,h8,h9,h10]
theorem law_bare_spec:cl (n+1) 26 [] fl = some (.dict bareD,fl):=by
  rw [cl_at (F:=⟨0,_,c_law_bare⟩) rfl rfl]
  show retOf (evB tabs (cl n) 1000 (.cons (.ret (.dict bareD)) .nil) ⟨[],fl⟩) = _
  rw [B_ret (S_ret (v:=.dict bareD) rfl rfl)]
  rfl
theorem bare_comp (hl:l.length < 1000) {σ:AS} (ho:hasOwn σ = false) (h0:σ.loc[0]? = some (some (as (tx l)))):evE tabs (cl (n+1)) (.comp (.ite (.cmp .isin (.var 0) (.callG 26 .nil)) (.idx (.callG 26 .nil) (.var 0)) (.var 0)) (.var 0) []) σ = some (setL (l.map bare),σ.fl):=by
  obtain ⟨loc,fl⟩:=σ
  simp only at h0 ⊢
  have hf:∀ x ∈ l,(fun (a:Atom) (fl:FL)=>evE tabs (cl (n+1)) (.ite (.cmp .isin (.var 0) (.callG 26 .nil)) (.idx (.callG 26 .nil) (.var 0)) (.var 0)) ⟨[some (.at a)],fl⟩) (Atom.str (chr1 x)) fl = some (.at (Atom.str (chr1 (bare x))),fl):=by
    intro x _
    show evE tabs (cl (n+1)) _ ⟨[some (as (chr1 x))],fl⟩ = some (as (chr1 (bare x)),fl)
    have hd:evE tabs (cl (n+1)) (.callG 26 .nil) ⟨[some (as (chr1 x))],fl⟩ = some (.dict bareD,fl):=E_callG A_nil rfl rfl law_bare_spec
    have hv:evE tabs (cl (n+1)) (.var 0) ⟨[some (as (chr1 x))],fl⟩ = some (as (chr1 x),fl):=E_var rfl
    have ht:evE tabs (cl (n+1)) (.cmp .isin (.var 0) (.callG 26 .nil)) ⟨[some (as (chr1 x))],fl⟩ = some (ab (dictGet (chr1 x) bareD).isSome,fl):=E_cmp hv hd rfl
    rw [E_ite ht]
    rcases bare_get x with h | ⟨h1,h2⟩
    · rw [h]
      rw [if_pos (show (some (chr1 (bare x))).isSome = true from rfl)]
      refine E_idx hd hv ?_
      show (dictGet (chr1 x) bareD).map as = _
      rw [h];rfl
    · rw [h1,h2,if_neg (show ¬ ((none:Option Str).isSome = true) by decide)]
      exact hv
  have v1:evE tabs (cl (n+1)) (.var 0) ⟨loc,fl⟩ = some (as (tx l),fl):=E_var h0
  refine E_comp (cs:=[]) ho v1 (iter_str hl) rfl ((evMap_eq l hf).trans (congrArg (fun z=>some (z,fl)) ?_))
  rw [List.map_map];rfl
noncomputable abbrev yI (bv x:Nat):Bool:=bv == x
noncomputable def ownL (d:List Nat):AV:=.own (d.map fun x=>Atom.str (chr1 x))
noncomputable def lastV (d:List Nat):Bool:=match d.getLast? with
  | some x=>isV x
  | none=>false
noncomputable abbrev kMk:CB:=(.cons (.assign 4 (.idx (.var 1) (.var 3))) (.cons (.assign 5 (.and (.cons (.cmp .gt (.var 3) (.int 0)) (.cons (.cmp .isin (.idx (.var 2) (.bin .sub (.var 3) (.int 1))) (.glob (.ofString "_law_vowels"))) .nil)))) (.cons (.assign 6 (.and (.cons (.cmp .lt (.bin .add (.var 3) (.int 1)) (.len (.var 1))) (.cons (.cmp .isin (.idx (.var 1) (.bin .add (.var 3) (.int 1))) (.glob (.ofString "_law_vowels"))) .nil)))) (.cons (.ite (.and (.cons (.cmp .eq (.var 4) (.str ⟨#[121]⟩)) (.cons (.or (.cons (.cmp .eq (.var 3) (.int 0)) (.cons (.var 5) .nil))) .nil))) (.cons (.append 2 (.str ⟨#[89]⟩)) .nil) (.cons (.ite (.and (.cons (.cmp .eq (.var 4) (.str ⟨#[105]⟩)) (.cons (.var 5) (.cons (.var 6) .nil)))) (.cons (.append 2 (.str ⟨#[73]⟩)) .nil) (.cons (.append 2 (.var 4)) .nil)) .nil)) .nil))))
noncomputable def mkOne (d:List Nat) (x:Nat) (t:List Nat):Nat:=if x = 121∧(d = [] ∨ lastV d = true) then 89 else if x = 105∧lastV d = true∧headV t = true then 73 else x
theorem idx_list {d:List Nat} {i x:Nat} (hd:d.length < 1000) (h:d[i]? = some x):idxV (setL d) (ai i) = some (as (chr1 x)):=idx_lst (by rw [List.length_map];exact hd) (by rw [List.getElem?_map,h];rfl)
theorem idx_own {d:List Nat} {i x:Nat} (hd:d.length < 1000) (h:d[i]? = some x):idxV (ownL d) (ai i) = some (as (chr1 x)):=idx_own' (by rw [List.length_map];exact hd) (by rw [List.getElem?_map,h];rfl)
theorem len_set {d:List Nat} (hd:d.length < 1000):lenV (setL d) = some (ai d.length):=(len_list (by rw [List.length_map];exact hd)).trans (by rw [List.length_map])
theorem S_append {i:Nat} {e:CE} {a:Atom} {σ:AS} {d:List Atom} (h:evE tabs Γ e σ = some (.at a,σ.fl)) (hi:σ.loc[i]? = some (some (.own d))) (hd:d.length < 1000) (ho:hasOwn ⟨σ.loc.set i none,σ.fl⟩ = false):evS tabs Γ N (.append i e) σ = some (⟨σ.loc.set i (some (.own (d ++ [a]))),σ.fl⟩,.next):=by
  refine (congrArg (obA · fun a fl=>(ownOf (locGet σ i)).bind fun l=>if small l.length && !hasOwn ⟨σ.loc.set i none,fl⟩ then some (bindV i (.own (l ++ [a])) σ fl,Out.next) else none) h).trans ?_
  show (ownOf (locGet σ i)).bind (fun l=>if small l.length && !hasOwn ⟨σ.loc.set i none,σ.fl⟩ then some (bindV i (.own (l ++ [a])) σ σ.fl,Out.next) else none) = _
  unfold locGet
  rw [hi,ho]
  show (if small d.length && !false then some (bindV i (.own (d ++ [a])) σ σ.fl,Out.next) else none) = _
  rw [sm hd];rfl
noncomputable abbrev LM (w b:AV) (d:List Nat) (x3 x4 x5 x6:Option AV):List (Option AV):=[some w,some b,some (ownL d),x3,x4,x5,x6]
theorem mark_turn {lw:List Nat} {pre d t:List Nat} {x:Nat} {x4 x5 x6:Option AV} (o4:okv x4 = true) (o5:okv x5 = true) (o6:okv x6 = true) (hpd:pre.length = d.length) (hl:(pre ++ x :: t).length < 900) :
    ∃ y4 y5 y6,okv y4 = true∧okv y5 = true∧okv y6 = true∧evB tabs Γ N kMk ⟨LM (as (tx lw)) (setL (pre ++ x :: t)) d (vI pre.length) x4 x5 x6,fl⟩ = some (⟨LM (as (tx lw)) (setL (pre ++ x :: t)) (d ++ [mkOne d x t]) (vI pre.length) y4 y5 y6,fl⟩,.next):=by
  have hd:d.length < 900:=by simp only [List.length_append,List.length_cons] at hl;omega
  refine ⟨some (as (chr1 x)),some (ab (lastV d)),some (ab (headV t)),rfl,rfl,rfl,?_⟩
  have hx:(pre ++ x :: t)[pre.length]? = some x:=by simp
  rw [B_next (σ':=⟨LM (as (tx lw)) (setL (pre ++ x :: t)) d (vI pre.length) (some (as (chr1 x))) x5 x6,fl⟩) (S_assign (E_idx (E_var rfl) (E_var rfl) (idx_list (by omega) hx)) rfl (by simp [okSet_eq,o4]))]
  have h5:evE tabs Γ (.and (.cons (.cmp .gt (.var 3) (.int 0)) (.cons (.cmp .isin (.idx (.var 2) (.bin .sub (.var 3) (.int 1))) (.glob (.ofString "_law_vowels"))) .nil))) ⟨LM (as (tx lw)) (setL (pre ++ x :: t)) d (vI pre.length) (some (as (chr1 x))) x5 x6,fl⟩ = some (ab (decide (0 < pre.length) && lastV d),fl):=by
    refine E_and2 (E_cmp (E_var rfl) E_int ?_) (fun hq=>?_)
    · show some (decide ((pre.length:Int) > 0)) = _
      rw [decide_eq_decide.mpr (show (pre.length:Int) > 0 ↔ 0 < pre.length by omega)]
    · have hq:=of_decide_eq_true hq
      obtain ⟨z,hz⟩:∃ z,d[pre.length - 1]? = some z:=⟨d[pre.length - 1],List.getElem?_eq_getElem (by omega)⟩
      have hlast:d.getLast? = some z:=by rw [List.getLast?_eq_getElem?,←hpd,hz]
      have hv:lastV d = isV z:=by unfold lastV;rw [hlast]
      rw [hv]
      refine E_cmp (E_idx (v:=as (chr1 z)) (E_var rfl) (E_bin (v:=ai ((pre.length - 1:Nat):Int)) (E_var rfl) E_int (sub_ai (by omega))) (idx_own (by omega) hz)) glob_v ?_
      exact inV_set vow z
  have e5:(decide (0 < pre.length) && lastV d) = lastV d:=by
    cases d with
    | nil=>cases decide (0 < pre.length)<;>rfl
    | cons a d=>rw [decide_eq_true (by rw [hpd];simp)];rfl
  rw [e5] at h5
  rw [B_next (σ':=⟨LM (as (tx lw)) (setL (pre ++ x :: t)) d (vI pre.length) (some (as (chr1 x))) (some (ab (lastV d))) x6,fl⟩) (S_assign h5 rfl (by simp [okSet_eq,o5]))]
  have h6:evE tabs Γ (.and (.cons (.cmp .lt (.bin .add (.var 3) (.int 1)) (.len (.var 1))) (.cons (.cmp .isin (.idx (.var 1) (.bin .add (.var 3) (.int 1))) (.glob (.ofString "_law_vowels"))) .nil))) ⟨LM (as (tx lw)) (setL (pre ++ x :: t)) d (vI pre.length) (some (as (chr1 x))) (some (ab (lastV d))) x6,fl⟩ = some (ab (decide (pre.length+1 < (pre ++ x :: t).length) && headV t),fl):=by
    have hb:evE tabs Γ (.bin .add (.var 3) (.int 1)) ⟨LM (as (tx lw)) (setL (pre ++ x :: t)) d (vI pre.length) (some (as (chr1 x))) (some (ab (lastV d))) x6,fl⟩ = some (ai ((pre.length+1:Nat):Int),fl):=E_bin (E_var rfl) E_int rfl
    have hlen:lenV (setL (pre ++ x :: t)) = some (ai (pre ++ x :: t).length):=len_set (by omega)
    refine E_and2 (E_cmp hb (E_len (E_var rfl) hlen) ?_) (fun hq=>?_)
    · show some (decide (((pre.length+1:Nat):Int) < (pre ++ x :: t).length)) = _
      rw [decide_eq_decide.mpr (show ((pre.length+1:Nat):Int) < (pre ++ x :: t).length ↔ pre.length+1 < (pre ++ x :: t).length by omega)]
    · have hq:=of_decide_eq_true hq
      obtain ⟨z,t',rfl⟩:∃ z t',t = z :: t':=by
        cases t with
        | nil=>simp at hq
        | cons z t'=>exact ⟨z,t',rfl⟩
      refine E_cmp (E_idx (v:=as (chr1 z)) (E_var rfl) hb (idx_list (by omega) (by simp))) glob_v ?_
      exact inV_set vow z
  have e6:(decide (pre.length+1 < (pre ++ x :: t).length) && headV t) = headV t:=by
    cases t with
    | nil=>cases decide (pre.length+1 < (pre ++ [x]).length)<;>rfl
    | cons a t=>rw [decide_eq_true (by simp)];rfl
  rw [e6] at h6
  rw [B_next (σ':=⟨LM (as (tx lw)) (setL (pre ++ x :: t)) d (vI pre.length) (some (as (chr1 x))) (some (ab (lastV d))) (some (ab (headV t))),fl⟩) (S_assign h6 rfl (by simp [okSet_eq,o6]))]
  have ap:∀ (e:CE) (z:Nat),evE tabs Γ e ⟨LM (as (tx lw)) (setL (pre ++ x :: t)) d (vI pre.length) (some (as (chr1 x))) (some (ab (lastV d))) (some (ab (headV t))),fl⟩ = some (as (chr1 z),fl)→
      evB tabs Γ N (.cons (.append 2 e) .nil) ⟨LM (as (tx lw)) (setL (pre ++ x :: t)) d (vI pre.length) (some (as (chr1 x))) (some (ab (lastV d))) (some (ab (headV t))),fl⟩ = some (⟨LM (as (tx lw)) (setL (pre ++ x :: t)) (d ++ [z]) (vI pre.length) (some (as (chr1 x))) (some (ab (lastV d))) (some (ab (headV t))),fl⟩,.next):=by
    intro e z he
    refine (B_next (S_append (a:=.str (chr1 z)) (d:=d.map fun x=>Atom.str (chr1 x)) he rfl (by rw [List.length_map];omega) rfl)).trans (B_nil.trans ?_)
    have:ownL (d ++ [z]) = .own ((d.map fun x=>Atom.str (chr1 x)) ++ [.str (chr1 z)]):=by unfold ownL;rw [List.map_append];rfl
    exact congrArg (fun z:AV=>some ((⟨[some (as (tx lw)),some (setL (pre ++ x :: t)),some z,vI pre.length,some (as (chr1 x)),some (ab (lastV d)),some (ab (headV t))],fl⟩:AS),Out.next)) this.symm
  have cy:evT tabs Γ (.and (.cons (.cmp .eq (.var 4) (.str ⟨#[121]⟩)) (.cons (.or (.cons (.cmp .eq (.var 3) (.int 0)) (.cons (.var 5) .nil))) .nil))) ⟨LM (as (tx lw)) (setL (pre ++ x :: t)) d (vI pre.length) (some (as (chr1 x))) (some (ab (lastV d))) (some (ab (headV t))),fl⟩ = some ((x == 121) && (((pre.length:Int) == 0) || lastV d),fl):=
    T_of (E_and2 (E_cmp (E_var rfl) E_str (congrArg some (chr1_eq x 121))) (fun _=>E_or2 (E_cmp (E_var rfl) E_int rfl) (fun _=>E_var rfl)))
  have ci:evT tabs Γ (.and (.cons (.cmp .eq (.var 4) (.str ⟨#[105]⟩)) (.cons (.var 5) (.cons (.var 6) .nil)))) ⟨LM (as (tx lw)) (setL (pre ++ x :: t)) d (vI pre.length) (some (as (chr1 x))) (some (ab (lastV d))) (some (ab (headV t))),fl⟩ = some ((x == 105) && (lastV d && headV t),fl):=
    T_of (E_and3 (E_cmp (E_var rfl) E_str (congrArg some (chr1_eq x 105))) (fun _=>E_var rfl) (fun _ _=>E_var rfl))
  rw [B_one]
  have hnil:((pre.length:Int) == 0) = decide (d = []):=by
    cases d with
    | nil=>rw [hpd];rfl
    | cons a d=>rw [hpd];simp;omega
  rw [hnil] at cy
  unfold mkOne
  by_cases hy:x = 121∧(d = [] ∨ lastV d = true)
  · rw [if_pos hy]
    have:((x == 121) && (decide (d = []) || lastV d)) = true:=by
      obtain ⟨h1,h2⟩:=hy
      subst h1
      rcases h2 with h2 | h2
      · subst h2;rfl
      · rw [h2];simp
    rw [this] at cy
    rw [S_true cy]
    exact ap _ 89 E_str
  · rw [if_neg hy]
    have:((x == 121) && (decide (d = []) || lastV d)) = false:=by
      rw [Bool.eq_false_iff]
      intro h
      obtain ⟨h1,h2⟩:=Bool.and_eq_true_iff.mp h
      refine hy ⟨by simpa using h1,?_⟩
      rcases Bool.or_eq_true_iff.mp h2 with h2 | h2
      · exact .inl (of_decide_eq_true h2)
      · exact .inr h2
    rw [this] at cy
    rw [S_false cy,B_one]
    by_cases hi:x = 105∧lastV d = true∧headV t = true
    · rw [if_pos hi]
      obtain ⟨h1,h2,h3⟩:=hi
      have:((x == 105) && (lastV d && headV t)) = true:=by rw [h2,h3,h1];rfl
      rw [this] at ci
      rw [S_true ci]
      exact ap _ 73 E_str
    · rw [if_neg hi]
      have:((x == 105) && (lastV d && headV t)) = false:=by
        rw [Bool.eq_false_iff]
        intro h
        obtain ⟨h1,h2⟩:=Bool.and_eq_true_iff.mp h
        obtain ⟨h2,h3⟩:=Bool.and_eq_true_iff.mp h2
        exact hi ⟨by simpa using h1,h2,h3⟩
      rw [this] at ci
      rw [S_false ci]
      exact ap _ x (E_var rfl)
end Mine
namespace Mine
variable {n:Nat} {Γ:Call} {N:Nat} {fl:FL} {l:List Nat}
theorem lastV_app (d:List Nat) (z:Nat):lastV (d ++ [z]) = isV z:=by unfold lastV;simp
theorem mk_step {d:List Nat} (hd:d ≠ []) (x:Nat) (t:List Nat):mk (lastV d) (x :: t) = mkOne d x t :: mk (lastV (d ++ [mkOne d x t])) t:=by
  rw [lastV_app]
  unfold mkOne
  rw [mk]
  by_cases h1:x = 121∧lastV d = true
  · rw [if_pos h1,if_pos ⟨h1.1,.inr h1.2⟩];rfl
  · have h1':¬ (x = 121∧(d = [] ∨ lastV d = true)):=by
      rintro ⟨a,b | b⟩
      · exact hd b
      · exact h1 ⟨a,b⟩
    rw [if_neg h1,if_neg h1']
    by_cases h2:x = 105∧lastV d = true∧headV t = true
    · simp only [if_pos h2];rfl
    · simp only [if_neg h2]
theorem marks_rest {lw:List Nat}:∀ (t pre d:List Nat) (x3 x4 x5 x6:Option AV),okv x3 = true→okv x4 = true→okv x5 = true→okv x6 = true→pre.length = d.length→d ≠ []→(pre ++ t).length < 900→
    ∃ y3 y4 y5 y6,forN 3 (fun σ=>evB tabs Γ N kMk σ) ((List.range' pre.length t.length).map fun (z:Nat)=>Atom.int z) ⟨LM (as (tx lw)) (setL (pre ++ t)) d x3 x4 x5 x6,fl⟩ =
      some (⟨LM (as (tx lw)) (setL (pre ++ t)) (d ++ mk (lastV d) t) y3 y4 y5 y6,fl⟩,.next)
  | [],pre,d,x3,x4,x5,x6,_,_,_,_,_,_,_=>⟨x3,x4,x5,x6,by simp [mk,forN]⟩
  | x :: t,pre,d,x3,x4,x5,x6,o3,o4,o5,o6,hpd,hd,hl=>by
    obtain ⟨y4,y5,y6,q4,q5,q6,h⟩:=mark_turn (Γ:=Γ) (N:=N) (fl:=fl) (lw:=lw) (pre:=pre) (d:=d) (t:=t) (x:=x) o4 o5 o6 hpd hl
    obtain ⟨z3,z4,z5,z6,ih⟩:=marks_rest (lw:=lw) t (pre ++ [x]) (d ++ [mkOne d x t]) (vI pre.length) y4 y5 y6 rfl q4 q5 q6 (by simp [hpd]) (by simp) (by simpa using hl)
    refine ⟨z3,z4,z5,z6,?_⟩
    simp only [List.length_cons,List.range'_succ,List.map_cons]
    have el:(pre ++ [x]).length = pre.length+1:=by simp
    have ep:(pre ++ [x]) ++ t = pre ++ x :: t:=by simp
    have ed:(d ++ [mkOne d x t]) ++ mk (lastV (d ++ [mkOne d x t])) t = d ++ mk (lastV d) (x :: t):=by rw [mk_step hd];simp
    rw [el,ep,ed] at ih
    exact (for_next (by simp [okSet_eq,o3]) h).trans ih
noncomputable def mk0:List Nat→List Nat
  | []=>[]
  | x :: t=>if x = 121 then 89 :: mk false t else mk false (x :: t)
theorem marked_eq (l:List Nat):marked l = mk0 (l.map bare):=by
  unfold marked mk0
  cases l.map bare<;>rfl
theorem marks_all {lw m:List Nat} (hl:m.length < 900):∃ y3 y4 y5 y6,forN 3 (fun σ=>evB tabs Γ N kMk σ) ((List.range' 0 m.length).map fun (z:Nat)=>Atom.int z) ⟨LM (as (tx lw)) (setL m) [] none none none none,fl⟩ =
      some (⟨LM (as (tx lw)) (setL m) (mk0 m) y3 y4 y5 y6,fl⟩,.next):=by
  cases m with
  | nil=>exact ⟨none,none,none,none,rfl⟩
  | cons x t=>
    obtain ⟨y4,y5,y6,q4,q5,q6,h⟩:=mark_turn (Γ:=Γ) (N:=N) (fl:=fl) (lw:=lw) (pre:=[]) (d:=[]) (t:=t) (x:=x) (x4:=none) (x5:=none) (x6:=none) rfl rfl rfl rfl hl
    obtain ⟨z3,z4,z5,z6,ih⟩:=marks_rest (Γ:=Γ) (N:=N) (fl:=fl) (lw:=lw) t [x] [mkOne [] x t] (vI 0) y4 y5 y6 rfl q4 q5 q6 rfl (by simp) hl
    refine ⟨z3,z4,z5,z6,?_⟩
    simp only [List.length_cons,List.range'_succ,List.map_cons]
    refine (for_next (by rfl) h).trans ?_
    refine ih.trans ?_
    have:[mkOne [] x t] ++ mk (lastV [mkOne [] x t]) t = mk0 (x :: t):=by
      show _ = if x = 121 then 89 :: mk false t else mk false (x :: t)
      have e:lastV [mkOne [] x t] = isV (mkOne [] x t):=rfl
      rw [e,mk_false]
      unfold mkOne
      by_cases h:x = 121
      · subst h;rfl
      · have:¬ (lastV [] = true):=by decide
        simp [h,this]
    rw [this]
    rfl
theorem join_own {d:List Nat} (h:d.length < 1000):joinV (ownL d) = some (as (tx d)):=by
  have e1:∀ d:List Nat,((d.map chr1).map (·.length)).sum = d.length:=by
    intro d
    induction d with
    | nil=>rfl
    | cons x d ih=>rw [List.map_cons,List.map_cons,List.sum_cons,ih];simp [chr1,Str.length];omega
  have e2:∀ d:List Nat,(d.map chr1).flatMap (·.cps.toList) = d:=by
    intro d
    induction d with
    | nil=>rfl
    | cons x d ih=>rw [List.map_cons,List.flatMap_cons,ih];rfl
  show ((strsOf (d.map fun x=>Atom.str (chr1 x))).bind fun xs=>iff (small (xs.map (·.length)).sum) (some (as ⟨(xs.flatMap (·.cps.toList)).toArray⟩))) = _
  rw [strsOf_map]
  show iff (small ((d.map chr1).map (·.length)).sum) (some (as ⟨((d.map chr1).flatMap (·.cps.toList)).toArray⟩)) = _
  rw [e1,e2,sm h];rfl
theorem iter_rng {lo m:Nat} (h:lo+m < 1000):iterV (.rng lo m 1) = some ((List.range' lo (m - lo)).map fun (z:Nat)=>Atom.int z):=by
  show iff (rgOk (lo:Int) && rgOk (m:Int)) ((iff (small ((m:Int) - lo).toNat) (some ((List.range ((m:Int) - lo).toNat).map fun (k:Nat)=>(lo:Int)+(k:Int)))).map fun l=>l.map Atom.int) = _
  rw [rg_nat (by omega),rg_nat (by omega),Int.toNat_sub,show small (m - lo) = true from decide_eq_true (Nat.le_trans (Nat.sub_le ..) (by omega))]
  exact congrArg some (range_map lo _ _)
theorem marked_spec (hl:l.length < 900):cl (n+2) 28 [as (tx l)] fl = some (as (tx (marked l)),fl):=by
  rw [cl_at (F:=⟨1,_,c_law_marked⟩) rfl rfl]
  show retOf (evB tabs (cl (n+1)) 1000 (.cons (.assign 1 (.comp (.ite (.cmp .isin (.var 0) (.callG 26 .nil)) (.idx (.callG 26 .nil) (.var 0)) (.var 0)) (.var 0) [])) (.cons (.newOwn 2) (.cons (.for 3 (.range (.cons (.len (.var 1)) .nil)) kMk) (.cons (.ret (.join (.var 2))) .nil)))) ⟨[some (as (tx l)),none,none,none,none,none,none],fl⟩) = _
  have hb:=bare_comp (n:=n) (l:=l) (σ:=⟨[some (as (tx l)),none,none,none,none,none,none],fl⟩) (by omega) rfl rfl
  rw [B_next (σ':=⟨[some (as (tx l)),some (setL (l.map bare)),none,none,none,none,none],fl⟩) (S_assign hb rfl rfl)]
  have hml:=marked_len l
  rw [marked_eq] at hml ⊢
  have hlen:(l.map bare).length = l.length:=List.length_map ..
  generalize l.map bare = m at hlen hml
  rw [B_next (σ':=⟨LM (as (tx l)) (setL m) [] none none none none,fl⟩) rfl]
  obtain ⟨y3,y4,y5,y6,h⟩:=marks_all (Γ:=cl (n+1)) (N:=1000) (fl:=fl) (lw:=l) (m:=m) (by omega)
  have hr:evE tabs (cl (n+1)) (.range (.cons (.len (.var 1)) .nil)) ⟨LM (as (tx l)) (setL m) [] none none none none,fl⟩ = some (.rng 0 m.length 1,fl):=by
    have hg:rgOk (m.length:Int) = true:=rg_nat (by omega)
    exact E_range1 (E_len (E_var rfl) (len_set (by omega))) hg
  have hi:iterV (.rng 0 m.length 1) = some ((List.range' 0 m.length).map fun (z:Nat)=>Atom.int z):=by
    exact iter_rng (lo:=0) (by omega)
  have hf:evS tabs (cl (n+1)) 1000 (.for 3 (.range (.cons (.len (.var 1)) .nil)) kMk) ⟨LM (as (tx l)) (setL m) [] none none none none,fl⟩ = some (⟨LM (as (tx l)) (setL m) (mk0 m) y3 y4 y5 y6,fl⟩,.next):=by
    exact (S_for hr hi).trans h
  rw [B_next hf]
  have hj:∀ (d:List Nat) (x3 x4 x5 x6:Option AV),d.length < 1000→evE tabs (cl (n+1)) (.join (.var 2)) ⟨LM (as (tx l)) (setL m) d x3 x4 x5 x6,fl⟩ = some (as (tx d),fl):=by
    intro d x3 x4 x5 x6 hd
    exact E_join (E_var rfl) (join_own hd)
  rw [B_ret (S_ret (hj _ _ _ _ _ (by omega)) rfl)]
  rfl
theorem mapIf {l:List Nat} {σw:AV} {f:Atom→FL→Option (AV × FL)} {c:Atom→FL→Option (Bool × FL)} (hf:∀ i:Nat,f (.int i) fl = some (ai ((i+1:Nat):Int),fl))
    (hc:∀ (pre t:List Nat) (p x:Nat),l = pre ++ p :: x :: t→c (.int ((pre.length+1:Nat):Int)) fl = some (isV p && !isV x,fl)) :
    ∀ (t pre:List Nat) (p:Nat),l = pre ++ p :: t→evMapIf f c ((List.range' (pre.length+1) t.length).map fun (z:Nat)=>Atom.int z) fl = some ((bl (isV p) (pre.length+1) t).map fun (z:Nat)=>Atom.int z,fl)
  | [],pre,p,_=>rfl
  | x :: t,pre,p,h=>by
    have hx:=hc pre t p x h
    have ih:=mapIf (σw:=σw) hf hc t (pre ++ [p]) x (by rw [h];simp)
    have el:(pre ++ [p]).length = pre.length+1:=by simp
    rw [el] at ih
    simp only [List.length_cons,List.range'_succ,List.map_cons]
    rw [bl]
    cases hh:isV p && !isV x with
    | true=>
      have hxv:isV x = false:=by
        have:=(Bool.and_eq_true_iff.mp hh).2
        simpa using this
      rw [hxv] at ih
      rw [hh] at hx
      exact MI_yes hx (hf _) ih
    | false=>
      rw [hh] at hx
      exact MI_no hx ih
theorem law_regions_spec (hl:l.length < 900):cl (n+1) 29 [as (tx l)] fl = some (.tup [.int (first l),.int (second l)],fl):=by
  rw [cl_at (F:=⟨1,_,c_law_regions⟩) rfl rfl]
  show retOf (evB tabs (cl n) 1000 c_law_regions ⟨[some (as (tx l)),none,none,none],fl⟩) = _
  unfold c_law_regions
  have hlen:lenV (as (tx l)) = some (ai l.length):=len_tx (sm (by omega))
  have hcomp:evE tabs (cl n) (.compIf (.bin .add (.var 0) (.int 1)) (.range (.cons (.int 1) (.cons (.len (.var 0)) .nil))) (.and (.cons (.cmp .isin (.idx (.var 1) (.bin .sub (.var 0) (.int 1))) (.glob (.ofString "_law_vowels"))) (.cons (.cmp .notin (.idx (.var 1) (.var 0)) (.glob (.ofString "_law_vowels"))) .nil))) [0]) ⟨[some (as (tx l)),none,none,none],fl⟩ = some (.list ((bl false 0 l).map fun (z:Nat)=>Atom.int z),fl):=by
    have hr:evE tabs (cl n) (.range (.cons (.int 1) (.cons (.len (.var 0)) .nil))) ⟨[some (as (tx l)),none,none,none],fl⟩ = some (.rng 1 l.length 1,fl):=by
      have ha:evA tabs (cl n) (.cons (.int 1) (.cons (.len (.var 0)) .nil)) ⟨[some (as (tx l)),none,none,none],fl⟩ = some ([ai 1,ai l.length],fl):=A2 E_int (E_len (E_var rfl) hlen)
      exact E_range (vs:=[ai 1,ai l.length]) ha (show iff (rgOk 1 && rgOk (l.length:Int)) (some (AV.rng 1 l.length 1)) = _ by rw [rg_nat (by omega)];rfl)
    have hi:iterV (.rng 1 l.length 1) = some ((List.range' 1 (l.length - 1)).map fun (z:Nat)=>Atom.int z):=by
      exact iter_rng (lo:=1) (by omega)
    have o:hasOwn ⟨[some (as (tx l)),none,none,none],fl⟩ = false:=rfl
    have c1:capsOf [0] ⟨[some (as (tx l)),none,none,none],fl⟩ = some [as (tx l)]:=rfl
    have key:evMapIf (fun a fl=>evE tabs (cl n) (.bin .add (.var 0) (.int 1)) ⟨[some (.at a),some (as (tx l))],fl⟩)
        (fun a fl=>evT tabs (cl n) (.and (.cons (.cmp .isin (.idx (.var 1) (.bin .sub (.var 0) (.int 1))) (.glob (.ofString "_law_vowels"))) (.cons (.cmp .notin (.idx (.var 1) (.var 0)) (.glob (.ofString "_law_vowels"))) .nil))) ⟨[some (.at a),some (as (tx l))],fl⟩)
        ((List.range' 1 (l.length - 1)).map fun (z:Nat)=>Atom.int z) fl = some ((bl false 0 l).map fun (z:Nat)=>Atom.int z,fl):=by
      cases l with
      | nil=>rfl
      | cons p t=>
        have:=mapIf (fl:=fl) (l:=p :: t) (σw:=ai 0) (f:=fun a fl=>evE tabs (cl n) (.bin .add (.var 0) (.int 1)) ⟨[some (.at a),some (as (tx (p :: t)))],fl⟩)
          (c:=fun a fl=>evT tabs (cl n) (.and (.cons (.cmp .isin (.idx (.var 1) (.bin .sub (.var 0) (.int 1))) (.glob (.ofString "_law_vowels"))) (.cons (.cmp .notin (.idx (.var 1) (.var 0)) (.glob (.ofString "_law_vowels"))) .nil))) ⟨[some (.at a),some (as (tx (p :: t)))],fl⟩)
          (fun i=>?_) (fun pre t' p' x h=>?_) t [] p rfl
        · have eb:bl false 0 (p :: t) = bl (isV p) 1 t:=by simp [bl]
          rw [eb]
          exact this
        · exact E_bin (v:=ai ((i+1:Nat):Int)) (E_var rfl) E_int rfl
        · rw [h] at hl ⊢
          have hsz:(pre ++ p' :: x :: t').length < 1000:=by omega
          have g1:idxV (as (tx (pre ++ p' :: x :: t'))) (ai ((pre.length:Nat):Int)) = some (as (chr1 p')):=idx_tx (sm hsz) (by simp)
          have g2:idxV (as (tx (pre ++ p' :: x :: t'))) (ai ((pre.length+1:Nat):Int)) = some (as (chr1 x)):=idx_tx (sm hsz) (by simp)
          have hand:evE tabs (cl n) (.and (.cons (.cmp .isin (.idx (.var 1) (.bin .sub (.var 0) (.int 1))) (.glob (.ofString "_law_vowels"))) (.cons (.cmp .notin (.idx (.var 1) (.var 0)) (.glob (.ofString "_law_vowels"))) .nil))) ⟨[some (ai ((pre.length+1:Nat):Int)),some (as (tx (pre ++ p' :: x :: t')))],fl⟩ = some (ab (isV p' && !isV x),fl):=by
            refine E_and2 (E_cmp (E_idx (E_var rfl) (E_bin (v:=ai ((pre.length:Nat):Int)) (E_var rfl) E_int (sub_ai (by omega))) g1) glob_v (inV_set vow p')) (fun _=>E_cmp (E_idx (E_var rfl) (E_var rfl) g2) glob_v ?_)
            show (inV (chr1 x) (setL vow)).map (!·) = _
            rw [inV_set];rfl
          exact T_of hand
    exact E_compIf o hr hi c1 key
  have hbl:(bl false 0 l).length ≤ l.length:=by
    have:∀ (t:List Nat) (v:Bool) (i:Nat),(bl v i t).length ≤ t.length:=by
      intro t
      induction t with
      | nil=>intro v i;exact Nat.le_refl _
      | cons x t ih=>
        intro v i
        rw [bl]
        split
        · have:=ih false (i+1);simp only [List.length_cons];omega
        · have:=ih (isV x) (i+1);simp only [List.length_cons];omega
    exact this l false 0
  rw [B_next (σ':=⟨[some (as (tx l)),some (.list ((bl false 0 l).map fun (z:Nat)=>Atom.int z)),none,none],fl⟩) (S_assign hcomp rfl rfl)]
  unfold first second
  generalize bl false 0 l = B at hbl
  have hlB:lenV (.list (B.map fun (z:Nat)=>Atom.int z)) = some (ai B.length):=by
    exact (len_list (by rw [List.length_map];omega)).trans (by rw [List.length_map])
  have t1:∀ (m:Nat) (x2:Option AV),evE tabs (cl n) (.cmp .gt (.len (.var 1)) (.int m)) ⟨[some (as (tx l)),some (.list (B.map fun (z:Nat)=>Atom.int z)),x2,none],fl⟩ = some (ab (decide (B.length > m)),fl):=by
    intro m x2
    refine E_cmp (E_len (E_var rfl) hlB) E_int ?_
    show some (decide ((B.length:Int) > m)) = _
    rw [decide_eq_decide.mpr (show (B.length:Int) > m ↔ B.length > m by omega)]
  have ix:∀ (i x:Nat) (x2:Option AV),B[i]? = some x→evE tabs (cl n) (.idx (.var 1) (.int i)) ⟨[some (as (tx l)),some (.list (B.map fun (z:Nat)=>Atom.int z)),x2,none],fl⟩ = some (ai x,fl):=by
    intro i x x2 hx
    refine E_idx (E_var rfl) E_int ?_
    exact idx_lst (by rw [List.length_map];omega) (by rw [List.getElem?_map,hx];rfl)
  have tl:∀ (x2:Option AV),evE tabs (cl n) (.len (.var 0)) ⟨[some (as (tx l)),some (.list (B.map fun (z:Nat)=>Atom.int z)),x2,none],fl⟩ = some (ai l.length,fl):=fun x2=>E_len (E_var rfl) hlen
  rcases B with _ | ⟨b0,B⟩
  · have e2:evE tabs (cl n) (.ite (.cmp .gt (.len (.var 1)) (.int 0)) (.max (.int 3) (.idx (.var 1) (.int 0))) (.len (.var 0))) ⟨[some (as (tx l)),some (.list ([].map fun (z:Nat)=>Atom.int z)),none,none],fl⟩ = some (ai l.length,fl):=(E_ite (t1 0 none)).trans (tl none)
    rw [B_next (σ':=⟨[some (as (tx l)),some (.list ([].map fun (z:Nat)=>Atom.int z)),some (ai l.length),none],fl⟩) (S_assign e2 rfl rfl)]
    have e3:evE tabs (cl n) (.ite (.cmp .gt (.len (.var 1)) (.int 1)) (.idx (.var 1) (.int 1)) (.len (.var 0))) ⟨[some (as (tx l)),some (.list ([].map fun (z:Nat)=>Atom.int z)),some (ai l.length),none],fl⟩ = some (ai l.length,fl):=(E_ite (t1 1 _)).trans (tl _)
    rw [B_next (σ':=⟨[some (as (tx l)),some (.list ([].map fun (z:Nat)=>Atom.int z)),some (ai l.length),some (ai l.length)],fl⟩) (S_assign e3 rfl rfl)]
    rw [B_ret (S_ret (v:=.tup [.int l.length,.int l.length]) (E_tup2 (E_var rfl) (E_var rfl)) rfl)]
    rfl
  · have e2:evE tabs (cl n) (.ite (.cmp .gt (.len (.var 1)) (.int 0)) (.max (.int 3) (.idx (.var 1) (.int 0))) (.len (.var 0))) ⟨[some (as (tx l)),some (.list ((b0 :: B).map fun (z:Nat)=>Atom.int z)),none,none],fl⟩ = some (ai ((max 3 b0:Nat):Int),fl):=by
      refine (E_ite (t1 0 none)).trans ?_
      have hh:decide ((b0 :: B).length > 0) = true:=by simp
      rw [hh,if_pos rfl]
      refine (E_max E_int (ix 0 b0 none rfl)).trans ?_
      by_cases hb:(b0:Int) > 3
      · rw [if_pos hb,show max 3 b0 = b0 by omega]
      · rw [if_neg hb,show max 3 b0 = 3 by omega];rfl
    rw [B_next (σ':=⟨[some (as (tx l)),some (.list ((b0 :: B).map fun (z:Nat)=>Atom.int z)),some (ai ((max 3 b0:Nat):Int)),none],fl⟩) (S_assign e2 rfl rfl)]
    rcases B with _ | ⟨b1,B⟩
    · have e3:evE tabs (cl n) (.ite (.cmp .gt (.len (.var 1)) (.int 1)) (.idx (.var 1) (.int 1)) (.len (.var 0))) ⟨[some (as (tx l)),some (.list ([b0].map fun (z:Nat)=>Atom.int z)),some (ai ((max 3 b0:Nat):Int)),none],fl⟩ = some (ai l.length,fl):=(E_ite (t1 1 _)).trans (tl _)
      rw [B_next (σ':=⟨[some (as (tx l)),some (.list ([b0].map fun (z:Nat)=>Atom.int z)),some (ai ((max 3 b0:Nat):Int)),some (ai l.length)],fl⟩) (S_assign e3 rfl rfl)]
      rw [B_ret (S_ret (v:=.tup [.int ((max 3 b0:Nat):Int),.int l.length]) (E_tup2 (E_var rfl) (E_var rfl)) rfl)]
      rfl
    · have e3:evE tabs (cl n) (.ite (.cmp .gt (.len (.var 1)) (.int 1)) (.idx (.var 1) (.int 1)) (.len (.var 0))) ⟨[some (as (tx l)),some (.list ((b0 :: b1 :: B).map fun (z:Nat)=>Atom.int z)),some (ai ((max 3 b0:Nat):Int)),none],fl⟩ = some (ai b1,fl):=by
        refine (E_ite (t1 1 _)).trans ?_
        have hh:decide ((b0 :: b1 :: B).length > 1) = true:=by simp
        rw [hh,if_pos rfl]
        exact ix 1 b1 _ rfl
      rw [B_next (σ':=⟨[some (as (tx l)),some (.list ((b0 :: b1 :: B).map fun (z:Nat)=>Atom.int z)),some (ai ((max 3 b0:Nat):Int)),some (ai b1)],fl⟩) (S_assign e3 rfl rfl)]
      rw [B_ret (S_ret (v:=.tup [.int ((max 3 b0:Nat):Int),.int b1]) (E_tup2 (E_var rfl) (E_var rfl)) rfl)]
      rfl
end Mine
namespace Mine
variable {n:Nat} {Γ:Call} {N:Nat} {fl:FL} {r e s:List Nat} {p q:Nat} {x3 x4 x5 x6 x7:Option AV}
noncomputable abbrev W (r:List Nat) (p q:Nat) (x3 x4 x5 x6 x7:Option AV):List (Option AV):=[some (as (tx r.reverse)),some (ai p),some (ai q),x3,x4,x5,x6,x7]
theorem own_W (o3:okv x3 = true) (o4:okv x4 = true) (o5:okv x5 = true) (o6:okv x6 = true) (o7:okv x7 = true) (fl:FL):hasOwn ⟨W r p q x3 x4 x5 x6 x7,fl⟩ = false:=by simp [hasOwn_eq,o3,o4,o5,o6,o7,as,ai]
theorem strsOf_tx:∀ es:List (List Nat),strsOf (es.map fun e=>Atom.str (tx e)) = some (es.map tx)
  | []=>rfl
  | e :: es=>by rw [List.map_cons,strsOf,strsOf_tx es];rfl
theorem inV_strs (es:List (List Nat)) (k:List Nat):inV (tx k) (strsL es) = some (es.any (· == k)):=by
  show (strsOf (es.map fun e=>Atom.str (tx e))).map (fun xs=>xs.any (· == tx k)) = _
  rw [strsOf_tx,Option.map_some,List.any_map]
  exact congrArg (fun f=>some (es.any f)) (funext fun e=>tx_beq e k)
theorem E_isin {T:Tabs} {σ:AS} {i:Nat} {k:List Nat} {es:List (List Nat)} (h:σ.loc[i]? = some (some (as (tx k)))) (hs:es.length < 1000):evE T Γ (.cmp .isin (.var i) (.list (strsCA es))) σ = some (ab (es.any (· == k)),σ.fl):=
  E_cmp (E_var h) (E_strs hs) (inV_strs es k)
theorem E_eqs {T:Tabs} {σ:AS} {i:Nat} {k y:List Nat} (h:σ.loc[i]? = some (some (as (tx k)))):evE T Γ (.cmp .eq (.var i) (.str (tx y))) σ = some (ab (k == y),σ.fl):=
  E_cmp (E_var h) E_str (congrArg some (tx_beq k y))
theorem E_nes {T:Tabs} {σ:AS} {i:Nat} {k y:List Nat} (h:σ.loc[i]? = some (some (as (tx k)))):evE T Γ (.cmp .ne (.var i) (.str (tx y))) σ = some (ab (k != y),σ.fl):=
  E_cmp (E_var h) E_str (congrArg some (by rw [bne,bne,tx_beq]))
theorem E_ge {T:Tabs} {σ:AS} {i j:Nat} {p:Nat} (h:σ.loc[i]? = some (some (as (tx s.reverse)))) (hj:σ.loc[j]? = some (some (ai p))) (hs:s.length < 1000):evE T Γ (.cmp .ge (.len (.var i)) (.var j)) σ = some (ab (decide (p ≤ s.length)),σ.fl):=by
  refine E_cmp (E_len (E_var h) (len_R hs)) (E_var hj) ?_
  show some (decide ((s.length:Int) ≥ p)) = _
  rw [decide_eq_decide.mpr (show (s.length:Int) ≥ p ↔ p ≤ s.length by omega)]
theorem E_endr {T:Tabs} {σ:AS} {i:Nat} {y:List Nat} (h:σ.loc[i]? = some (some (as (tx s.reverse)))) (hs:s.length < 1000) (hy:y.length < 1000):evE T Γ (.endswith (.var i) (.str (tx y))) σ = some (ab (y.reverse.isPrefixOf s),σ.fl):=
  E_ends (E_var h) E_str (ends_R hs hy)
theorem E_cut {T:Tabs} {σ:AS} {i j:Nat} {k:List Nat} (h:σ.loc[i]? = some (some (as (tx (e ++ s).reverse)))) (hj:σ.loc[j]? = some (some (as (tx k)))) (hk:k.length = e.length) (hs:(e ++ s).length < 1000):evE T Γ (.sliceTo (.var i) (.bin .sub (.len (.var i)) (.len (.var j)))) σ = some (as (tx s.reverse),σ.fl):=by
  have h':=hs
  rw [List.length_append] at h'
  exact E_sliceTo (h:=s.length) (E_var h) (E_bin (E_len (E_var h) (len_R hs)) (E_len (E_var hj) (len_tx (sm (by omega)))) (sub_ai (by rw [List.length_append];omega))) (cut_R hs)
theorem E_cutn {T:Tabs} {σ:AS} {i:Nat} {m:Int} (h:σ.loc[i]? = some (some (as (tx (e ++ s).reverse)))) (hm:m = e.length) (hs:(e ++ s).length < 1000):evE T Γ (.sliceTo (.var i) (.bin .sub (.len (.var i)) (.int m))) σ = some (as (tx s.reverse),σ.fl):=
  E_sliceTo (h:=s.length) (E_var h) (E_bin (E_len (E_var h) (len_R hs)) E_int (sub_ai (by rw [List.length_append];omega))) (cut_R hs)
noncomputable abbrev ends3:List (List Nat):=[[104,101,100,101,110],[101,110,101],[101,110],[115,101],[115]]
theorem sfr (y r:List Nat):y.reverse.isSuffixOf r.reverse = y.isPrefixOf r:=by rw [sfx,List.reverse_reverse]
theorem fold_yes {y f r:List Nat} {ys:List (List Nat)} (h:y.isPrefixOf r = true) (hl:f.length < y.reverse.length):(y.reverse :: ys).foldl (pick r.reverse) f = ys.foldl (pick r.reverse) y.reverse:=
  congrArg (ys.foldl (pick r.reverse)) (if_pos (Bool.and_eq_true_iff.mpr ⟨(sfr y r).trans h,decide_eq_true hl⟩))
theorem fold_no {y f r:List Nat} {ys:List (List Nat)} (h:y.isPrefixOf r = false):(y.reverse :: ys).foldl (pick r.reverse) f = ys.foldl (pick r.reverse) f:=
  congrArg (ys.foldl (pick r.reverse)) (if_neg fun e=>Bool.false_ne_true (h.symm.trans ((sfr y r).symm.trans (Bool.and_eq_true_iff.mp e).1)))
theorem fold_keep {w f:List Nat}:∀ {ys:List (List Nat)},(∀ y ∈ ys,y.length ≤ f.length)→ys.foldl (pick w) f = f
  | [],_=>rfl
  | y :: ys,h=>(congrArg (ys.foldl (pick w)) (if_neg fun e=>Nat.not_lt.mpr (h y (List.mem_cons_self ..)) (of_decide_eq_true (Bool.and_eq_true_iff.mp e).2))).trans (fold_keep fun z m=>h z (List.mem_cons_of_mem _ m))
theorem end3_key (r:List Nat):∃ e s z,r = e ++ s∧end3 r = (e.length,z)∧lend ends3 r.reverse = e.reverse ∧
    ((e = [110,101,100,101,104]∧z = 1) ∨ (e = [101,110,101]∧z = 2) ∨ (e = [110,101]∧z = 2) ∨ (e = [101,115]∧z = 3) ∨ (e = [115]∧z = 3) ∨ (e = []∧z = 0)):=by
  have n:∀ {b:Bool},b = false→¬ b = true:=fun h=>h▸Bool.false_ne_true
  cases hA:[110,101,100,101,104].isPrefixOf r with
  | true=>obtain ⟨s,hs⟩:=pre_ex hA;exact ⟨_,s,_,hs,if_pos hA,(fold_yes hA (by decide)).trans (fold_keep (by decide)),.inl ⟨rfl,rfl⟩⟩
  | false=>
  cases hB:[101,110,101].isPrefixOf r with
  | true=>obtain ⟨s,hs⟩:=pre_ex hB;exact ⟨_,s,_,hs,(if_neg (n hA)).trans (if_pos hB),(fold_no hA).trans ((fold_yes hB (by decide)).trans (fold_keep (by decide))),.inr (.inl ⟨rfl,rfl⟩)⟩
  | false=>
  cases hC:[110,101].isPrefixOf r with
  | true=>obtain ⟨s,hs⟩:=pre_ex hC;exact ⟨_,s,_,hs,(if_neg (n hA)).trans ((if_neg (n hB)).trans (if_pos hC)),(fold_no hA).trans ((fold_no hB).trans ((fold_yes hC (by decide)).trans (fold_keep (by decide)))),.inr (.inr (.inl ⟨rfl,rfl⟩))⟩
  | false=>
  cases hD:[101,115].isPrefixOf r with
  | true=>obtain ⟨s,hs⟩:=pre_ex hD;exact ⟨_,s,_,hs,(if_neg (n hA)).trans ((if_neg (n hB)).trans ((if_neg (n hC)).trans (if_pos hD))),(fold_no hA).trans ((fold_no hB).trans ((fold_no hC).trans ((fold_yes hD (by decide)).trans (fold_keep (by decide))))),.inr (.inr (.inr (.inl ⟨rfl,rfl⟩)))⟩
  | false=>
  cases hE:[115].isPrefixOf r with
  | true=>obtain ⟨s,hs⟩:=pre_ex hE;exact ⟨_,s,_,hs,(if_neg (n hA)).trans ((if_neg (n hB)).trans ((if_neg (n hC)).trans ((if_neg (n hD)).trans (if_pos hE)))),(fold_no hA).trans ((fold_no hB).trans ((fold_no hC).trans ((fold_no hD).trans (fold_yes hE (by decide))))),.inr (.inr (.inr (.inr (.inl ⟨rfl,rfl⟩))))⟩
  | false=>exact ⟨[],r,0,rfl,(if_neg (n hA)).trans ((if_neg (n hB)).trans ((if_neg (n hC)).trans ((if_neg (n hD)).trans (if_neg (n hE))))),(fold_no hA).trans ((fold_no hB).trans ((fold_no hC).trans ((fold_no hD).trans (fold_no hE)))),.inr (.inr (.inr (.inr (.inr ⟨rfl,rfl⟩))))⟩
theorem add_js:binV .add (setL vow) (.list [.str (chr1 106)]) = some (setL (vow ++ [106])):=rfl
theorem add_Is:binV .add (setL vow) (.list [.str (chr1 73)]) = some (setL (vow ++ [73])):=rfl
theorem cont_perm {a b:List Nat} (h:a.Perm b) (x:Nat):a.contains x = b.contains x:=Bool.eq_iff_iff.mpr (by rw [List.contains_iff_mem,List.contains_iff_mem];exact h.mem_iff)
theorem vj_eq (x:Nat):(vow ++ [106]).contains x = isVj x:=cont_perm (by decide) x
theorem vI_eq (x:Nat):(vow ++ [73]).contains x = isVI x:=cont_perm List.perm_append_comm x
theorem E_vj {σ:AS}:evE tabs Γ (.bin .add (.glob (.ofString "_law_vowels")) (.list (.cons (.str ⟨#[106]⟩) .nil))) σ = some (setL (vow ++ [106]),σ.fl):=
  E_bin glob_v (E_strs (es:=[[106]]) (by decide)) add_js
theorem E_vI {σ:AS}:evE tabs Γ (.bin .add (.glob (.ofString "_law_vowels")) (.list (.cons (.str ⟨#[73]⟩) .nil))) σ = some (setL (vow ++ [73]),σ.fl):=
  E_bin glob_v (E_strs (es:=[[73]]) (by decide)) add_Is
theorem shutj_eq (s:List Nat):shutBy isVj s = shutj s:=by cases s<;>rfl
theorem add_R {y:List Nat} (hs:s.length < 900) (hy:y.length < 90):binV .add (as (tx s.reverse)) (as (tx y)) = some (as (tx (y.reverse ++ s).reverse)):=by
  have:=add_tx (x:=s.reverse) (y:=y) (by simp only [small,decide_eq_true_eq,List.length_reverse];omega)
  rw [List.reverse_append,List.reverse_reverse]
  exact this
noncomputable abbrev sA3:CS:=.assign 3 (.callG 30 (.cons (.var 0) (.cons (.list (strsCA ends3)) .nil)))
noncomputable abbrev sA4:CS:=.assign 4 (.sliceTo (.var 0) (.bin .sub (.len (.var 0)) (.len (.var 3))))
noncomputable abbrev sA5:CS:=.ite (.cmp .isin (.var 3) (.list (strsCA [[101,110,101],[101,110]]))) (.cons (.assign 0 (.callG 33 (.cons (.var 0) (.cons (.var 3) (.cons (.var 1) .nil))))) .nil) (.cons (.ite (.and (.cons (.cmp .eq (.var 3) (.str (tx [104,101,100,101,110]))) (.cons (.cmp .ge (.len (.var 4)) (.var 1)) .nil))) (.cons (.assign 0 (.bin .add (.var 4) (.str (tx [104,101,105,100])))) .nil) (.cons (.ite (.and (.cons (.cmp .isin (.var 3) (.list (strsCA [[115,101],[115]]))) (.cons (.cmp .ge (.len (.var 4)) (.var 1)) (.cons (.callG 31 (.cons (.var 4) (.cons (.bin .add (.glob (.ofString "_law_vowels")) (.list (.cons (.str ⟨#[106]⟩) .nil))) .nil))) .nil)))) (.cons (.assign 0 (.var 4)) .nil) .nil) .nil)) .nil)
theorem lawA (hr:r.length < 900) (hP:3 ≤ p ∨ r.length ≤ p) (rest:CB):∃ y3 y4,okv y3 = true∧okv y4 = true ∧
    evB tabs (cl (n+4)) 1000 (.cons sA3 (.cons sA4 (.cons sA5 rest))) ⟨W r p q none none none none none,fl⟩ = evB tabs (cl (n+4)) 1000 rest ⟨W (step1 p r) p q y3 y4 none none none,fl⟩:=by
  obtain ⟨e,s,z,hes,h3,hk,hz⟩:=end3_key r
  have hlen:=congrArg List.length hes
  rw [List.length_append] at hlen
  refine ⟨some (as (tx e.reverse)),some (as (tx s.reverse)),rfl,rfl,?_⟩
  have he:=ending_spec (n:=n+3) (fl:=fl) (w:=r.reverse) (es:=ends3) (by rw [List.length_reverse];omega) (by decide) (by decide)
  rw [hk] at he
  have hc:evE tabs (cl (n+4)) (.callG 30 (.cons (.var 0) (.cons (.list (strsCA ends3)) .nil))) ⟨W r p q none none none none none,fl⟩ = _:=E_callG (A2 (E_var rfl) (E_strs (by decide))) rfl rfl he
  rw [B_next (σ':=⟨W r p q (some (as (tx e.reverse))) none none none none,fl⟩) (S_assign hc rfl rfl)]
  have h4:evE tabs (cl (n+4)) (.sliceTo (.var 0) (.bin .sub (.len (.var 0)) (.len (.var 3)))) ⟨W r p q (some (as (tx e.reverse))) none none none none,fl⟩ = some (as (tx s.reverse),fl):=E_cut (e:=e) (by rw [←hes];rfl) rfl (by simp) (by rw [←hes];omega)
  rw [B_next (σ':=⟨W r p q (some (as (tx e.reverse))) (some (as (tx s.reverse))) none none none,fl⟩) (S_assign h4 rfl rfl)]
  have hd:r.drop e.length = s:=by
    conv=>lhs;rw [hes]
    rw [List.drop_left]
  have hst:step1 p r = (if z = 0 then r else if z = 1 then (if p ≤ s.length then [100,105,101,104] ++ s else r) else if z = 2 then lessEn p r s else if decide (p ≤ s.length) && shutj s then s else r):=by
    unfold step1;rw [h3];simp only [hd]
  rw [hst]
  clear hst hc he h4
  have hg:evE tabs (cl (n+4)) (.cmp .ge (.len (.var 4)) (.var 1)) ⟨W r p q (some (as (tx e.reverse))) (some (as (tx s.reverse))) none none none,fl⟩ = some (ab (decide (p ≤ s.length)),fl):=E_ge rfl rfl (by omega)
  have hne:0 < e.length→p ≤ s.length→s ≠ []:=by
    intro h0 h1 h2
    rw [h2] at h1 hlen
    simp at h1 hlen
    omega
  have en:∀ e':List Nat,e = e'→0 < e'.length→(([[101,110,101],[101,110]]:List (List Nat)).any (· == e'.reverse)) = true→evS tabs (cl (n+4)) 1000 sA5 ⟨W r p q (some (as (tx e.reverse))) (some (as (tx s.reverse))) none none none,fl⟩ = some (⟨W (lessEn p r s) p q (some (as (tx e.reverse))) (some (as (tx s.reverse))) none none none,fl⟩,.next):=by
    intro e' he' h0 hin
    subst he'
    have t:=T_of (E_isin (T:=tabs) (Γ:=cl (n+4)) (σ:=⟨W r p q (some (as (tx e.reverse))) (some (as (tx s.reverse))) none none none,fl⟩) (i:=3) (k:=e.reverse) (es:=[[101,110,101],[101,110]]) rfl (by decide))
    rw [hin] at t
    have hle:=less_en_spec (n:=n+1) (fl:=fl) (e:=e) (s:=s) (p:=p) (y:=e.reverse) (by simp) (by rw [←hes];omega) (hne h0)
    rw [←hes] at hle
    have hc:evE tabs (cl (n+4)) (.callG 33 (.cons (.var 0) (.cons (.var 3) (.cons (.var 1) .nil)))) ⟨W r p q (some (as (tx e.reverse))) (some (as (tx s.reverse))) none none none,fl⟩ = _:=E_callG (A3 (E_var rfl) (E_var rfl) (E_var rfl)) rfl rfl hle
    exact (S_true t).trans ((B_next (S_assign hc rfl rfl)).trans B_nil)
  have noen:(([[101,110,101],[101,110]]:List (List Nat)).any (· == e.reverse)) = false→evS tabs (cl (n+4)) 1000 sA5 ⟨W r p q (some (as (tx e.reverse))) (some (as (tx s.reverse))) none none none,fl⟩ = evS tabs (cl (n+4)) 1000 (.ite (.and (.cons (.cmp .eq (.var 3) (.str (tx [104,101,100,101,110]))) (.cons (.cmp .ge (.len (.var 4)) (.var 1)) .nil))) (.cons (.assign 0 (.bin .add (.var 4) (.str (tx [104,101,105,100])))) .nil) (.cons (.ite (.and (.cons (.cmp .isin (.var 3) (.list (strsCA [[115,101],[115]]))) (.cons (.cmp .ge (.len (.var 4)) (.var 1)) (.cons (.callG 31 (.cons (.var 4) (.cons (.bin .add (.glob (.ofString "_law_vowels")) (.list (.cons (.str ⟨#[106]⟩) .nil))) .nil))) .nil)))) (.cons (.assign 0 (.var 4)) .nil) .nil) .nil)) ⟨W r p q (some (as (tx e.reverse))) (some (as (tx s.reverse))) none none none,fl⟩:=by
    intro hin
    have t:=T_of (E_isin (T:=tabs) (Γ:=cl (n+4)) (σ:=⟨W r p q (some (as (tx e.reverse))) (some (as (tx s.reverse))) none none none,fl⟩) (i:=3) (k:=e.reverse) (es:=[[101,110,101],[101,110]]) rfl (by decide))
    rw [hin] at t
    rw [S_false t,B_one]
  have th:evT tabs (cl (n+4)) (.and (.cons (.cmp .eq (.var 3) (.str (tx [104,101,100,101,110]))) (.cons (.cmp .ge (.len (.var 4)) (.var 1)) .nil))) ⟨W r p q (some (as (tx e.reverse))) (some (as (tx s.reverse))) none none none,fl⟩ = some ((e.reverse == [104,101,100,101,110]) && decide (p ≤ s.length),fl):=T_of (E_and2 (E_eqs rfl) (fun _=>hg))
  have ts:∀ b:Bool,(([[115,101],[115]]:List (List Nat)).any (· == e.reverse)) = b→(b = true→0 < e.length)→evT tabs (cl (n+4)) (.and (.cons (.cmp .isin (.var 3) (.list (strsCA [[115,101],[115]]))) (.cons (.cmp .ge (.len (.var 4)) (.var 1)) (.cons (.callG 31 (.cons (.var 4) (.cons (.bin .add (.glob (.ofString "_law_vowels")) (.list (.cons (.str ⟨#[106]⟩) .nil))) .nil))) .nil)))) ⟨W r p q (some (as (tx e.reverse))) (some (as (tx s.reverse))) none none none,fl⟩ = some (b && (decide (p ≤ s.length) && shutj s),fl):=by
    intro b hb h0
    refine T_of (E_and3 ((E_isin rfl (by decide)).trans (by rw [hb])) (fun _=>hg) (fun hb1 hq=>?_))
    rw [←shutj_eq]
    exact call_shut (n:=n+3) (v:=isVj) E_vj vj_eq (by rfl) (by rfl) (by omega) (hne (h0 hb1) (of_decide_eq_true hq))
  rcases hz with ⟨h1,h2⟩ | ⟨h1,h2⟩ | ⟨h1,h2⟩ | ⟨h1,h2⟩ | ⟨h1,h2⟩ | ⟨h1,h2⟩
  · subst h2
    have e1:=noen (by rw [h1];decide)
    rw [if_neg (by decide),if_pos rfl]
    have hrev:(e.reverse == [104,101,100,101,110]) = true:=by rw [h1];decide
    rw [hrev] at th
    by_cases hp:p ≤ s.length
    · rw [if_pos hp]
      have hb:=add_R (s:=s) (y:=[104,101,105,100]) (by omega) (by decide)
      have ha:evE tabs (cl (n+4)) (.bin .add (.var 4) (.str (tx [104,101,105,100]))) ⟨W r p q (some (as (tx e.reverse))) (some (as (tx s.reverse))) none none none,fl⟩ = _:=E_bin (E_var rfl) E_str hb
      rw [B_next (e1.trans ((S_true (T_val th (by simp [hp]))).trans ((B_next (S_assign ha rfl rfl)).trans B_nil)))]
      rfl
    · rw [if_neg hp]
      have hts:=ts false (by rw [h1];decide) (by simp)
      rw [B_next (e1.trans ((S_false (T_val th (by simp [hp]))).trans ((B_skip hts).trans B_nil)))]
  · subst h2
    rw [if_neg (by decide),if_neg (by decide),if_pos rfl]
    rw [B_next (en _ h1 (by decide) (by decide))]
  · subst h2
    rw [if_neg (by decide),if_neg (by decide),if_pos rfl]
    rw [B_next (en _ h1 (by decide) (by decide))]
  · subst h2
    rw [if_neg (by decide),if_neg (by decide),if_neg (by decide)]
    have e1:=noen (by rw [h1];decide)
    have hrev:(e.reverse == [104,101,100,101,110]) = false:=by rw [h1];decide
    rw [hrev] at th
    have hts:=ts true (by rw [h1];decide) (by rw [h1];simp)
    cases hh:decide (p ≤ s.length) && shutj s with
    | true=>
      rw [hh] at hts
      rw [B_next (e1.trans ((S_false th).trans (B_one.trans ((S_true hts).trans ((B_next (S_assign (E_var rfl) rfl rfl)).trans B_nil)))))]
      rfl
    | false=>
      rw [hh] at hts
      rw [B_next (e1.trans ((S_false th).trans ((B_skip hts).trans B_nil)))]
      rfl
  · subst h2
    rw [if_neg (by decide),if_neg (by decide),if_neg (by decide)]
    have e1:=noen (by rw [h1];decide)
    have hrev:(e.reverse == [104,101,100,101,110]) = false:=by rw [h1];decide
    rw [hrev] at th
    have hts:=ts true (by rw [h1];decide) (by rw [h1];simp)
    cases hh:decide (p ≤ s.length) && shutj s with
    | true=>
      rw [hh] at hts
      rw [B_next (e1.trans ((S_false th).trans (B_one.trans ((S_true hts).trans ((B_next (S_assign (E_var rfl) rfl rfl)).trans B_nil)))))]
      rfl
    | false=>
      rw [hh] at hts
      rw [B_next (e1.trans ((S_false th).trans ((B_skip hts).trans B_nil)))]
      rfl
  · subst h2
    rw [if_pos rfl]
    have e1:=noen (by rw [h1];decide)
    have hrev:(e.reverse == [104,101,100,101,110]) = false:=by rw [h1];decide
    rw [hrev] at th
    have hts:=ts false (by rw [h1];decide) (by simp)
    rw [B_next (e1.trans ((S_false th).trans ((B_skip hts).trans B_nil)))]
end Mine
namespace Mine
variable {n:Nat} {Γ:Call} {N:Nat} {fl:FL} {r e s:List Nat} {p q:Nat} {x3 x4 x5 x6 x7:Option AV}
theorem lessE_lt {t:List Nat} (h:lessE p r = some t):t.length < r.length:=by
  unfold lessE at h
  split at h
  · cases h
  · rename_i x s
    split at h
    · cases h;have:=single_len s;simp only [List.length_cons];omega
    · cases h
theorem ne_some:(((lessE p r).getD r).reverse != r.reverse) = (lessE p r).isSome:=by
  cases h:lessE p r with
  | none=>simp
  | some t=>
    have:=lessE_lt h
    simp only [Option.getD_some,Option.isSome_some,bne_iff_ne,ne_eq]
    intro q
    have q2:=congrArg List.length q
    simp only [List.length_reverse] at q2
    omega
theorem lawB (hr:r.length < 900) (hP:3 ≤ p ∨ r.length ≤ p) (o3:okv x3 = true) (o4:okv x4 = true) (rest:CB) :
    evB tabs (cl (n+4)) 1000 (.cons (.assign 4 (.callG 34 (.cons (.var 0) (.cons (.var 1) .nil)))) (.cons (.assign 5 (.cmp .ne (.var 4) (.var 0))) (.cons (.assign 0 (.var 4)) rest))) ⟨W r p q x3 x4 none none none,fl⟩ =
    evB tabs (cl (n+4)) 1000 rest ⟨W (step2 p r) p q x3 (some (as (tx (step2 p r).reverse))) (some (ab (lessE p r).isSome)) none none,fl⟩:=by
  have hle:=less_e_spec (n:=n+1) (fl:=fl) (r:=r) (p:=p) (by omega) (by rintro x s rfl h1 rfl;simp at h1 hP;omega)
  have hc:evE tabs (cl (n+4)) (.callG 34 (.cons (.var 0) (.cons (.var 1) .nil))) ⟨W r p q x3 x4 none none none,fl⟩ = _:=E_callG (A2 (E_var rfl) (E_var rfl)) rfl (own_W o3 o4 rfl rfl rfl _) hle
  rw [B_next (σ':=⟨W r p q x3 (some (as (tx (step2 p r).reverse))) none none none,fl⟩) (S_assign hc rfl (by simp [okSet_eq,o4]))]
  have hn:evE tabs (cl (n+4)) (.cmp .ne (.var 4) (.var 0)) ⟨W r p q x3 (some (as (tx (step2 p r).reverse))) none none none,fl⟩ = some (ab (lessE p r).isSome,fl):=by
    refine E_cmp (E_var rfl) (E_var rfl) ?_
    show some (tx _ != tx _) = _
    rw [bne,tx_beq]
    have:=ne_some (p:=p) (r:=r)
    rw [bne] at this
    exact congrArg some this
  rw [B_next (σ':=⟨W r p q x3 (some (as (tx (step2 p r).reverse))) (some (ab (lessE p r).isSome)) none none,fl⟩) (S_assign hn rfl rfl)]
  rw [B_next (σ':=⟨W (step2 p r) p q x3 (some (as (tx (step2 p r).reverse))) (some (ab (lessE p r).isSome)) none none,fl⟩) (S_assign (E_var rfl) rfl rfl)]
theorem pre1 (y:Nat) (s:List Nat):[y].isPrefixOf s = (s.head? == some y):=by
  cases s with
  | nil=>rfl
  | cons x s=>
    have:(y == x) = (x == y):=by
      by_cases q:x = y
      · subst q;rfl
      · rw [beq_eq_false_iff_ne.mpr q,beq_eq_false_iff_ne.mpr (Ne.symm q)]
    simp [List.isPrefixOf,this]
noncomputable abbrev sC:CS:=.ite (.endswith (.var 0) (.str (tx [104,101,105,100]))) (.cons (.assign 4 (.sliceTo (.var 0) (.bin .sub (.len (.var 0)) (.int 4)))) (.cons (.ite (.and (.cons (.cmp .ge (.len (.var 4)) (.var 2)) (.cons (.not (.endswith (.var 4) (.str (tx [99])))) .nil))) (.cons (.assign 0 (.ite (.endswith (.var 4) (.str (tx [101,110]))) (.callG 33 (.cons (.var 4) (.cons (.str (tx [101,110])) (.cons (.var 1) .nil)))) (.var 4))) .nil) .nil) .nil)) .nil
theorem lawC (hr:r.length < 900) (hP:3 ≤ p ∨ r.length ≤ p) (o3:okv x3 = true) (o4:okv x4 = true) (o5:okv x5 = true) (rest:CB):∃ y4,okv y4 = true ∧
    evB tabs (cl (n+4)) 1000 (.cons sC rest) ⟨W r p q x3 x4 x5 none none,fl⟩ = evB tabs (cl (n+4)) 1000 rest ⟨W (step3 p q r) p q x3 y4 x5 none none,fl⟩:=by
  have t1:=T_of (E_endr (T:=tabs) (Γ:=cl (n+4)) (σ:=⟨W r p q x3 x4 x5 none none,fl⟩) (i:=0) (s:=r) (y:=[104,101,105,100]) rfl (by omega) (by decide))
  have hrv:[104,101,105,100].reverse = [100,105,101,104]:=rfl
  rw [hrv] at t1
  unfold step3
  cases hp:[100,105,101,104].isPrefixOf r with
  | false=>
    rw [hp] at t1
    exact ⟨x4,o4,B_skip t1⟩
  | true=>
    rw [hp] at t1
    obtain ⟨s,hs⟩:=pre_ex hp
    have hd:r.drop 4 = s:=by rw [hs];rfl
    have hd6:r.drop 6 = s.drop 2:=by rw [hs];rfl
    have hlen:r.length = s.length+4:=by rw [hs];simp
    rw [hd,hd6,if_pos rfl]
    refine ⟨some (as (tx s.reverse)),rfl,?_⟩
    have hcut:evE tabs (cl (n+4)) (.sliceTo (.var 0) (.bin .sub (.len (.var 0)) (.int 4))) ⟨W r p q x3 x4 x5 none none,fl⟩ = some (as (tx s.reverse),fl):=E_cutn (e:=[100,105,101,104]) (by rw [hs];rfl) rfl (by rw [←hs];omega)
    have a4:evS tabs (cl (n+4)) 1000 (.assign 4 (.sliceTo (.var 0) (.bin .sub (.len (.var 0)) (.int 4)))) ⟨W r p q x3 x4 x5 none none,fl⟩ = some (⟨W r p q x3 (some (as (tx s.reverse))) x5 none none,fl⟩,.next):=S_assign hcut rfl (by simp [okSet_eq,o4])
    have t2:evT tabs (cl (n+4)) (.and (.cons (.cmp .ge (.len (.var 4)) (.var 2)) (.cons (.not (.endswith (.var 4) (.str (tx [99])))) .nil))) ⟨W r p q x3 (some (as (tx s.reverse))) x5 none none,fl⟩ = some (decide (q ≤ s.length) && s.head? != some 99,fl):=by
      have:=T_of (E_and2 (E_ge (T:=tabs) (Γ:=cl (n+4)) (σ:=⟨W r p q x3 (some (as (tx s.reverse))) x5 none none,fl⟩) (i:=4) (j:=2) (s:=s) (p:=q) rfl rfl (by omega)) (fun _=>E_not (E_endr (i:=4) (s:=s) (y:=[99]) rfl (by omega) (by decide))))
      rw [show [99].reverse = [99] from rfl,pre1] at this
      exact this
    cases hh:decide (q ≤ s.length) && s.head? != some 99 with
    | false=>
      rw [hh] at t2
      rw [if_neg (by decide),B_next ((S_true t1).trans ((B_next a4).trans ((B_skip t2).trans B_nil)))]
    | true=>
      rw [hh] at t2
      rw [if_pos rfl]
      have te:=E_endr (T:=tabs) (Γ:=cl (n+4)) (σ:=⟨W r p q x3 (some (as (tx s.reverse))) x5 none none,fl⟩) (i:=4) (s:=s) (y:=[101,110]) rfl (by omega) (by decide)
      rw [show [101,110].reverse = [110,101] from rfl] at te
      have hx:evE tabs (cl (n+4)) (.ite (.endswith (.var 4) (.str (tx [101,110]))) (.callG 33 (.cons (.var 4) (.cons (.str (tx [101,110])) (.cons (.var 1) .nil)))) (.var 4)) ⟨W r p q x3 (some (as (tx s.reverse))) x5 none none,fl⟩ = some (as (tx (if [110,101].isPrefixOf s then lessEn p s (s.drop 2) else s).reverse),fl):=by
        rw [E_ite te]
        cases hp2:[110,101].isPrefixOf s with
        | false=>simp only [Bool.false_eq_true,if_false];exact E_var rfl
        | true=>
          obtain ⟨t,ht⟩:=pre_ex hp2
          have hd2:s.drop 2 = t:=by rw [ht];rfl
          have htl:s.length = t.length+2:=by rw [ht];simp
          rw [if_pos rfl,if_pos rfl,hd2]
          have hle:=less_en_spec (n:=n+1) (fl:=fl) (e:=[110,101]) (s:=t) (p:=p) (y:=[101,110]) rfl (by rw [←ht];omega) (by rintro h1 rfl;simp at h1 htl;omega)
          rw [←ht] at hle
          exact E_callG (A3 (E_var rfl) E_str (E_var rfl)) rfl (own_W o3 rfl o5 rfl rfl _) hle
      rw [B_next ((S_true t1).trans ((B_next a4).trans ((B_one.trans ((S_true t2).trans ((B_next (S_assign hx rfl rfl)).trans B_nil))))))]
      rfl
noncomputable abbrev ends4:List (List Nat):=[[101,110,100],[105,110,103],[105,103],[108,105,106,107],[98,97,97,114],[98,97,114]]
theorem fold_skip {y f w:List Nat} {ys:List (List Nat)} (h:y.length ≤ f.length):(y :: ys).foldl (pick w) f = ys.foldl (pick w) f:=
  congrArg (ys.foldl (pick w)) (if_neg fun e=>Nat.not_lt.mpr h (of_decide_eq_true (Bool.and_eq_true_iff.mp e).2))
theorem end4_key (r:List Nat):∃ e s z,r = e ++ s∧end4 r = (e.length,z)∧lend ends4 r.reverse = e.reverse ∧
    ((e = [100,110,101]∧z = 1) ∨ (e = [103,110,105]∧z = 1) ∨ (e = [103,105]∧z = 2) ∨ (e = [107,106,105,108]∧z = 3) ∨ (e = [114,97,97,98]∧z = 4) ∨ (e = [114,97,98]∧z = 5) ∨ (e = []∧z = 0)):=by
  have n:∀ {b:Bool},b = false→¬ b = true:=fun h=>h▸Bool.false_ne_true
  cases hA:[100,110,101].isPrefixOf r with
  | true=>obtain ⟨s,hs⟩:=pre_ex hA;exact ⟨_,s,_,hs,if_pos hA,(fold_yes hA (by decide)).trans ((fold_skip (by decide)).trans ((fold_skip (by decide)).trans ((fold_no (y:=[107,106,105,108]) (by rw [hs];rfl)).trans ((fold_no (y:=[114,97,97,98]) (by rw [hs];rfl)).trans (fold_keep (by decide)))))),.inl ⟨rfl,rfl⟩⟩
  | false=>
  cases hB:[103,110,105].isPrefixOf r with
  | true=>obtain ⟨s,hs⟩:=pre_ex hB;exact ⟨_,s,_,hs,(if_neg (n hA)).trans (if_pos hB),(fold_no hA).trans ((fold_yes hB (by decide)).trans ((fold_skip (by decide)).trans ((fold_no (y:=[107,106,105,108]) (by rw [hs];rfl)).trans ((fold_no (y:=[114,97,97,98]) (by rw [hs];rfl)).trans (fold_keep (by decide)))))),.inr (.inl ⟨rfl,rfl⟩)⟩
  | false=>
  cases hC:[103,105].isPrefixOf r with
  | true=>obtain ⟨s,hs⟩:=pre_ex hC;exact ⟨_,s,_,hs,(if_neg (n hA)).trans ((if_neg (n hB)).trans (if_pos hC)),(fold_no hA).trans ((fold_no hB).trans ((fold_yes hC (by decide)).trans ((fold_no (y:=[107,106,105,108]) (by rw [hs];rfl)).trans ((fold_no (y:=[114,97,97,98]) (by rw [hs];rfl)).trans (fold_no (y:=[114,97,98]) (by rw [hs];rfl)))))),.inr (.inr (.inl ⟨rfl,rfl⟩))⟩
  | false=>
  cases hD:[107,106,105,108].isPrefixOf r with
  | true=>obtain ⟨s,hs⟩:=pre_ex hD;exact ⟨_,s,_,hs,(if_neg (n hA)).trans ((if_neg (n hB)).trans ((if_neg (n hC)).trans (if_pos hD))),(fold_no hA).trans ((fold_no hB).trans ((fold_no hC).trans ((fold_yes hD (by decide)).trans (fold_keep (by decide))))),.inr (.inr (.inr (.inl ⟨rfl,rfl⟩)))⟩
  | false=>
  cases hE:[114,97,97,98].isPrefixOf r with
  | true=>obtain ⟨s,hs⟩:=pre_ex hE;exact ⟨_,s,_,hs,(if_neg (n hA)).trans ((if_neg (n hB)).trans ((if_neg (n hC)).trans ((if_neg (n hD)).trans (if_pos hE)))),(fold_no hA).trans ((fold_no hB).trans ((fold_no hC).trans ((fold_no hD).trans ((fold_yes hE (by decide)).trans (fold_keep (by decide)))))),.inr (.inr (.inr (.inr (.inl ⟨rfl,rfl⟩))))⟩
  | false=>
  cases hF:[114,97,98].isPrefixOf r with
  | true=>obtain ⟨s,hs⟩:=pre_ex hF;exact ⟨_,s,_,hs,(if_neg (n hA)).trans ((if_neg (n hB)).trans ((if_neg (n hC)).trans ((if_neg (n hD)).trans ((if_neg (n hE)).trans (if_pos hF))))),(fold_no hA).trans ((fold_no hB).trans ((fold_no hC).trans ((fold_no hD).trans ((fold_no hE).trans (fold_yes hF (by decide)))))),.inr (.inr (.inr (.inr (.inr (.inl ⟨rfl,rfl⟩)))))⟩
  | false=>
  exact ⟨[],r,0,rfl,(if_neg (n hA)).trans ((if_neg (n hB)).trans ((if_neg (n hC)).trans ((if_neg (n hD)).trans ((if_neg (n hE)).trans (if_neg (n hF)))))),(fold_no hA).trans ((fold_no hB).trans ((fold_no hC).trans ((fold_no hD).trans ((fold_no hE).trans (fold_no hF))))),.inr (.inr (.inr (.inr (.inr (.inr (⟨rfl,rfl⟩))))))⟩
noncomputable abbrev sD3:CS:=.assign 3 (.callG 30 (.cons (.var 0) (.cons (.list (strsCA ends4)) .nil)))
noncomputable abbrev sDi:CB:=(.cons (.assign 6 (.sliceTo (.var 4) (.bin .sub (.len (.var 4)) (.int 2)))) (.cons (.ite (.and (.cons (.endswith (.var 4) (.str (tx [105,103]))) (.cons (.cmp .ge (.len (.var 6)) (.var 2)) (.cons (.not (.endswith (.var 6) (.str (tx [101])))) .nil)))) (.cons (.assign 0 (.var 6)) .nil) (.cons (.assign 0 (.callG 32 (.cons (.var 4) .nil))) .nil)) .nil))
noncomputable abbrev sDj:CS:=.ite (.cmp .isin (.var 3) (.list (strsCA [[101,110,100],[105,110,103]]))) sDi (.cons (.ite (.cmp .eq (.var 3) (.str (tx [105,103]))) (.cons (.assign 0 (.ite (.endswith (.var 4) (.str (tx [101]))) (.var 0) (.var 4))) .nil) (.cons (.ite (.cmp .eq (.var 3) (.str (tx [108,105,106,107]))) (.cons (.assign 0 (.callG 34 (.cons (.var 4) (.cons (.var 1) .nil)))) .nil) (.cons (.ite (.or (.cons (.cmp .eq (.var 3) (.str (tx [98,97,97,114]))) (.cons (.var 5) .nil))) (.cons (.assign 0 (.var 4)) .nil) .nil) .nil)) .nil)) .nil)
noncomputable abbrev sD5:CS:=.ite (.and (.cons (.cmp .ne (.var 3) (.str (tx []))) (.cons (.cmp .ge (.len (.var 4)) (.var 2)) .nil))) (.cons sDj .nil) .nil
theorem lawD {found:Bool} (hr:r.length < 900) (hP:3 ≤ p ∨ r.length ≤ p) (hQ:3 ≤ q ∨ r.length ≤ q) (o3:okv x3 = true) (o4:okv x4 = true) (rest:CB):∃ y3 y4 y6,okv y3 = true∧okv y4 = true∧okv y6 = true ∧
    evB tabs (cl (n+4)) 1000 (.cons sD3 (.cons sA4 (.cons sD5 rest))) ⟨W r p q x3 x4 (some (ab found)) none none,fl⟩ = evB tabs (cl (n+4)) 1000 rest ⟨W (step4 p q found r) p q y3 y4 (some (ab found)) y6 none,fl⟩:=by
  obtain ⟨e,s,z,hes,h3,hk,hz⟩:=end4_key r
  have hlen:=congrArg List.length hes
  rw [List.length_append] at hlen
  have he:=ending_spec (n:=n+3) (fl:=fl) (w:=r.reverse) (es:=ends4) (by rw [List.length_reverse];omega) (by decide) (by decide)
  rw [hk] at he
  have hc:evE tabs (cl (n+4)) (.callG 30 (.cons (.var 0) (.cons (.list (strsCA ends4)) .nil))) ⟨W r p q x3 x4 (some (ab found)) none none,fl⟩ = _:=E_callG (A2 (E_var rfl) (E_strs (by decide))) rfl (own_W o3 o4 rfl rfl rfl _) he
  have c1:∀ rest:CB,evB tabs (cl (n+4)) 1000 (.cons sD3 rest) ⟨W r p q x3 x4 (some (ab found)) none none,fl⟩ = evB tabs (cl (n+4)) 1000 rest ⟨W r p q (some (as (tx e.reverse))) x4 (some (ab found)) none none,fl⟩:=fun rest=>B_next (S_assign hc rfl (by simp [okSet_eq,o3]))
  have h4:evE tabs (cl (n+4)) (.sliceTo (.var 0) (.bin .sub (.len (.var 0)) (.len (.var 3)))) ⟨W r p q (some (as (tx e.reverse))) x4 (some (ab found)) none none,fl⟩ = some (as (tx s.reverse),fl):=E_cut (e:=e) (by rw [←hes];rfl) rfl (by simp) (by rw [←hes];omega)
  have c2:∀ rest:CB,evB tabs (cl (n+4)) 1000 (.cons sA4 rest) ⟨W r p q (some (as (tx e.reverse))) x4 (some (ab found)) none none,fl⟩ = evB tabs (cl (n+4)) 1000 rest ⟨W r p q (some (as (tx e.reverse))) (some (as (tx s.reverse))) (some (ab found)) none none,fl⟩:=fun rest=>B_next (S_assign h4 rfl (by simp [okSet_eq,o4]))
  have hd:r.drop e.length = s:=by
    conv=>lhs;rw [hes]
    rw [List.drop_left]
  have hst:step4 p q found r = (if z = 0 then r else if ¬ q ≤ s.length then r else if z = 1 then step4a q s else if z = 2 then (if s.head? = some 101 then r else s) else if z = 3 then (lessE p s).getD s else if z = 4 then s else if found then s else r):=by
    unfold step4;rw [h3];simp only [hd]
  rw [hst]
  clear hst
  have t5:evT tabs (cl (n+4)) (.and (.cons (.cmp .ne (.var 3) (.str (tx []))) (.cons (.cmp .ge (.len (.var 4)) (.var 2)) .nil))) ⟨W r p q (some (as (tx e.reverse))) (some (as (tx s.reverse))) (some (ab found)) none none,fl⟩ = some ((e.reverse != []) && decide (q ≤ s.length),fl):=T_of (E_and2 (E_nes rfl) (fun _=>E_ge rfl rfl (by omega)))
  have out:∀ (r':List Nat) (y6:Option AV),okv y6 = true→evS tabs (cl (n+4)) 1000 sD5 ⟨W r p q (some (as (tx e.reverse))) (some (as (tx s.reverse))) (some (ab found)) none none,fl⟩ = some (⟨W r' p q (some (as (tx e.reverse))) (some (as (tx s.reverse))) (some (ab found)) y6 none,fl⟩,.next)→
      ∃ y3 y4 y6,okv y3 = true∧okv y4 = true∧okv y6 = true∧evB tabs (cl (n+4)) 1000 (.cons sD3 (.cons sA4 (.cons sD5 rest))) ⟨W r p q x3 x4 (some (ab found)) none none,fl⟩ = evB tabs (cl (n+4)) 1000 rest ⟨W r' p q y3 y4 (some (ab found)) y6 none,fl⟩:=
    fun r' y6 o6 h=>⟨_,_,_,rfl,rfl,o6,(c1 _).trans ((c2 _).trans (B_next h))⟩
  by_cases h0:z = 0
  · rw [if_pos h0]
    have he0:e = []:=by
      rcases hz with h | h | h | h | h | h | h
      · omega
      · omega
      · omega
      · omega
      · omega
      · omega
      · exact h.1
    rw [show (e.reverse != []) = false by rw [he0];rfl] at t5
    exact out r none rfl ((S_false t5).trans B_nil)
  have hne:0 < e.length:=by
    rcases hz with h | h | h | h | h | h | h<;>first | (rw [h.1];decide) | (exact absurd h.2 h0)
  have he1:(e.reverse != []) = true:=by
    rw [bne_iff_ne]
    intro q
    have:=congrArg List.length q
    simp at this
    rw [this] at hne
    simp at hne
  rw [he1,Bool.true_and] at t5
  rw [if_neg h0]
  by_cases hq:q ≤ s.length
  · rw [if_neg (by simpa using hq)]
    rw [decide_eq_true hq] at t5
    have t5':∀ {o},evS tabs (cl (n+4)) 1000 sDj ⟨W r p q (some (as (tx e.reverse))) (some (as (tx s.reverse))) (some (ab found)) none none,fl⟩ = o→evS tabs (cl (n+4)) 1000 sD5 ⟨W r p q (some (as (tx e.reverse))) (some (as (tx s.reverse))) (some (ab found)) none none,fl⟩ = o:=by
      intro o h
      rw [S_true t5,B_one];exact h
    have tin:=T_of (E_isin (T:=tabs) (Γ:=cl (n+4)) (σ:=⟨W r p q (some (as (tx e.reverse))) (some (as (tx s.reverse))) (some (ab found)) none none,fl⟩) (i:=3) (k:=e.reverse) (es:=[[101,110,100],[105,110,103]]) rfl (by decide))
    have one:(([[101,110,100],[105,110,103]]:List (List Nat)).any (· == e.reverse)) = true→∃ y3 y4 y6,okv y3 = true∧okv y4 = true∧okv y6 = true∧evB tabs (cl (n+4)) 1000 (.cons sD3 (.cons sA4 (.cons sD5 rest))) ⟨W r p q x3 x4 (some (ab found)) none none,fl⟩ = evB tabs (cl (n+4)) 1000 rest ⟨W (step4a q s) p q y3 y4 (some (ab found)) y6 none,fl⟩:=by
      intro hin
      rw [hin] at tin
      have hs2:2 ≤ s.length:=by omega
      refine out (step4a q s) (some (as (tx (s.drop 2).reverse))) rfl (t5' ?_)
      rw [S_true tin]
      have hes2:s = s.take 2 ++ s.drop 2:=(List.take_append_drop 2 s).symm
      have hcut:evE tabs (cl (n+4)) (.sliceTo (.var 4) (.bin .sub (.len (.var 4)) (.int 2))) ⟨W r p q (some (as (tx e.reverse))) (some (as (tx s.reverse))) (some (ab found)) none none,fl⟩ = some (as (tx (s.drop 2).reverse),fl):=E_cutn (e:=s.take 2) (by rw [←hes2];rfl) (by simp;omega) (by rw [←hes2];omega)
      rw [B_next (σ':=⟨W r p q (some (as (tx e.reverse))) (some (as (tx s.reverse))) (some (ab found)) (some (as (tx (s.drop 2).reverse))) none,fl⟩) (S_assign hcut rfl rfl)]
      have hdl:(s.drop 2).length < 1000:=by simp only [List.length_drop];omega
      have tig:evT tabs (cl (n+4)) (.and (.cons (.endswith (.var 4) (.str (tx [105,103]))) (.cons (.cmp .ge (.len (.var 6)) (.var 2)) (.cons (.not (.endswith (.var 6) (.str (tx [101])))) .nil)))) ⟨W r p q (some (as (tx e.reverse))) (some (as (tx s.reverse))) (some (ab found)) (some (as (tx (s.drop 2).reverse))) none,fl⟩ = some (igOk q s,fl):=by
        have:=T_of (E_and3 (E_endr (T:=tabs) (Γ:=cl (n+4)) (σ:=⟨W r p q (some (as (tx e.reverse))) (some (as (tx s.reverse))) (some (ab found)) (some (as (tx (s.drop 2).reverse))) none,fl⟩) (i:=4) (s:=s) (y:=[105,103]) rfl (by omega) (by decide)) (fun _=>E_ge (i:=6) (j:=2) (s:=s.drop 2) (p:=q) rfl rfl hdl) (fun _ _=>E_not (E_endr (i:=6) (s:=s.drop 2) (y:=[101]) rfl hdl (by decide))))
        rw [show [101].reverse = [101] from rfl,show [105,103].reverse = [103,105] from rfl,pre1] at this
        exact this
      unfold step4a
      cases hi:igOk q s with
      | true=>
        rw [hi] at tig
        rw [B_one,S_true tig,if_pos rfl]
        exact (B_next (S_assign (E_var rfl) rfl rfl)).trans B_nil
      | false=>
        rw [hi] at tig
        rw [B_one,S_false tig,if_neg (by decide)]
        have hsg:=single_spec (n:=n+2) (fl:=fl) (r:=s) (by omega)
        have hcs:evE tabs (cl (n+4)) (.callG 32 (.cons (.var 4) .nil)) ⟨W r p q (some (as (tx e.reverse))) (some (as (tx s.reverse))) (some (ab found)) (some (as (tx (s.drop 2).reverse))) none,fl⟩ = _:=E_callG (A1 (E_var rfl)) rfl rfl hsg
        exact (B_next (S_assign hcs rfl rfl)).trans B_nil
    have q1:=T_of (E_eqs (T:=tabs) (Γ:=cl (n+4)) (σ:=⟨W r p q (some (as (tx e.reverse))) (some (as (tx s.reverse))) (some (ab found)) none none,fl⟩) (i:=3) (k:=e.reverse) (y:=[105,103]) rfl)
    have q2:=T_of (E_eqs (T:=tabs) (Γ:=cl (n+4)) (σ:=⟨W r p q (some (as (tx e.reverse))) (some (as (tx s.reverse))) (some (ab found)) none none,fl⟩) (i:=3) (k:=e.reverse) (y:=[108,105,106,107]) rfl)
    have q3:evT tabs (cl (n+4)) (.or (.cons (.cmp .eq (.var 3) (.str (tx [98,97,97,114]))) (.cons (.var 5) .nil))) ⟨W r p q (some (as (tx e.reverse))) (some (as (tx s.reverse))) (some (ab found)) none none,fl⟩ = some ((e.reverse == [98,97,97,114]) || found,fl):=T_of (E_or2 (E_eqs rfl) (fun _=>E_var rfl))
    rcases hz with ⟨h1,h2⟩ | ⟨h1,h2⟩ | ⟨h1,h2⟩ | ⟨h1,h2⟩ | ⟨h1,h2⟩ | ⟨h1,h2⟩ | ⟨h1,h2⟩
    · rw [if_pos h2]
      exact one (by rw [h1];decide)
    · rw [if_pos h2]
      exact one (by rw [h1];decide)
    · subst h2
      rw [if_neg (by decide),if_pos rfl]
      rw [show (([[101,110,100],[105,110,103]]:List (List Nat)).any (· == e.reverse)) = false by rw [h1];decide] at tin
      rw [show (e.reverse == [105,103]) = true by rw [h1];decide] at q1
      have te:=E_endr (T:=tabs) (Γ:=cl (n+4)) (σ:=⟨W r p q (some (as (tx e.reverse))) (some (as (tx s.reverse))) (some (ab found)) none none,fl⟩) (i:=4) (s:=s) (y:=[101]) rfl (by omega) (by decide)
      rw [show [101].reverse = [101] from rfl,pre1] at te
      have hx:evE tabs (cl (n+4)) (.ite (.endswith (.var 4) (.str (tx [101]))) (.var 0) (.var 4)) ⟨W r p q (some (as (tx e.reverse))) (some (as (tx s.reverse))) (some (ab found)) none none,fl⟩ = some (as (tx (if s.head? = some 101 then r else s).reverse),fl):=by
        rw [E_ite te]
        by_cases hh:s.head? = some 101
        · rw [if_pos (by simp [hh]),if_pos hh];exact E_var rfl
        · rw [if_neg (by simp [hh]),if_neg hh];exact E_var rfl
      refine out _ none rfl (t5' ?_)
      rw [S_false tin,B_one,S_true q1]
      exact (B_next (S_assign hx rfl rfl)).trans B_nil
    · subst h2
      rw [if_neg (by decide),if_neg (by decide),if_pos rfl]
      rw [show (([[101,110,100],[105,110,103]]:List (List Nat)).any (· == e.reverse)) = false by rw [h1];decide] at tin
      rw [show (e.reverse == [105,103]) = false by rw [h1];decide] at q1
      rw [show (e.reverse == [108,105,106,107]) = true by rw [h1];decide] at q2
      have hle:=less_e_spec (n:=n+1) (fl:=fl) (r:=s) (p:=p) (by omega) (by rintro x s' rfl h1 rfl;simp at h1 hlen hP;omega)
      have hcl:evE tabs (cl (n+4)) (.callG 34 (.cons (.var 4) (.cons (.var 1) .nil))) ⟨W r p q (some (as (tx e.reverse))) (some (as (tx s.reverse))) (some (ab found)) none none,fl⟩ = _:=E_callG (A2 (E_var rfl) (E_var rfl)) rfl rfl hle
      refine out _ none rfl (t5' ?_)
      rw [S_false tin,B_one,S_false q1,B_one,S_true q2]
      exact (B_next (S_assign hcl rfl rfl)).trans B_nil
    · subst h2
      rw [if_neg (by decide),if_neg (by decide),if_neg (by decide),if_pos rfl]
      rw [show (([[101,110,100],[105,110,103]]:List (List Nat)).any (· == e.reverse)) = false by rw [h1];decide] at tin
      rw [show (e.reverse == [105,103]) = false by rw [h1];decide] at q1
      rw [show (e.reverse == [108,105,106,107]) = false by rw [h1];decide] at q2
      rw [show (e.reverse == [98,97,97,114]) = true by rw [h1];decide] at q3
      refine out _ none rfl (t5' ?_)
      rw [S_false tin,B_one,S_false q1,B_one,S_false q2,B_one,S_true q3]
      exact (B_next (S_assign (E_var rfl) rfl rfl)).trans B_nil
    · subst h2
      rw [if_neg (by decide),if_neg (by decide),if_neg (by decide),if_neg (by decide)]
      rw [show (([[101,110,100],[105,110,103]]:List (List Nat)).any (· == e.reverse)) = false by rw [h1];decide] at tin
      rw [show (e.reverse == [105,103]) = false by rw [h1];decide] at q1
      rw [show (e.reverse == [108,105,106,107]) = false by rw [h1];decide] at q2
      rw [show (e.reverse == [98,97,97,114]) = false by rw [h1];decide] at q3
      refine out _ none rfl (t5' ?_)
      rw [S_false tin,B_one,S_false q1,B_one,S_false q2,B_one]
      cases found with
      | true=>
        rw [S_true q3]
        exact (B_next (S_assign (E_var rfl) rfl rfl)).trans B_nil
      | false=>
        rw [S_false q3]
        exact B_nil
    · exact absurd h2 h0
  · rw [if_pos hq]
    rw [decide_eq_false hq] at t5
    exact out r none rfl ((S_false t5).trans B_nil)
end Mine
namespace Mine
variable {n:Nat} {Γ:Call} {N:Nat} {fl:FL} {r e s l:List Nat} {p q:Nat} {x3 x4 x5 x6 x7:Option AV}
noncomputable abbrev sE:CS:=.ite (.and (.cons (.cmp .ge (.var 7) (.int 4)) (.cons (.cmp .isin (.slice (.var 0) (.bin .sub (.var 7) (.int 3)) (.bin .sub (.var 7) (.int 1))) (.list (strsCA [[97,97],[101,101],[111,111],[117,117]]))) .nil))) (.cons (.ite (.and (.cons (.cmp .notin (.idx (.var 0) (.bin .sub (.var 7) (.int 4))) (.glob (.ofString "_law_vowels"))) (.cons (.cmp .notin (.idx (.var 0) (.bin .sub (.var 7) (.int 1))) (.bin .add (.glob (.ofString "_law_vowels")) (.list (.cons (.str ⟨#[73]⟩) .nil)))) .nil))) (.cons (.assign 0 (.bin .add (.sliceTo (.var 0) (.bin .sub (.var 7) (.int 2))) (.idx (.var 0) (.bin .sub (.var 7) (.int 1))))) .nil) .nil) .nil) .nil
theorem dblV_in (a b:Nat) (t:List Nat):dblV (a :: b :: t) = (([[97,97],[101,101],[111,111],[117,117]]:List (List Nat)).any (· == [b,a])):=by
  unfold dblV end5
  have e:∀ y:Nat,[y,y].isPrefixOf (a :: b :: t) = ([y,y] == [b,a]):=by
    intro y
    have:([y,y] == [b,a]) = ((y == b) && (y == a)):=by simp [List.cons_beq_cons]
    rw [this]
    simp only [List.isPrefixOf,Bool.and_true]
    exact Bool.and_comm _ _
  simp only [e,List.any_cons,List.any_nil]
  cases ([97,97] == [b,a])<;>cases ([101,101] == [b,a])<;>cases ([111,111] == [b,a])<;>cases ([117,117] == [b,a])<;>rfl
theorem lawE (hr:r.length < 900) (rest:CB):evB tabs Γ 1000 (.cons (.assign 7 (.len (.var 0))) (.cons sE rest)) ⟨W r p q x3 x4 x5 x6 none,fl⟩ = evB tabs Γ 1000 rest ⟨W (step5 r) p q x3 x4 x5 x6 (some (ai r.length)),fl⟩:=by
  rw [B_next (σ':=⟨W r p q x3 x4 x5 x6 (some (ai r.length)),fl⟩) (S_assign (E_len (E_var rfl) (len_R (by omega))) rfl rfl)]
  have g4:evE tabs Γ (.cmp .ge (.var 7) (.int 4)) ⟨W r p q x3 x4 x5 x6 (some (ai r.length)),fl⟩ = some (ab (decide (4 ≤ r.length)),fl):=by
    refine E_cmp (E_var rfl) E_int ?_
    show some (decide ((r.length:Int) ≥ 4)) = _
    rw [decide_eq_decide.mpr (show (r.length:Int) ≥ 4 ↔ 4 ≤ r.length by omega)]
  by_cases h4:4 ≤ r.length
  · obtain ⟨x,a,b,c,t,rfl⟩:∃ x a b c t,r = x :: a :: b :: c :: t:=by
      rcases r with _ | ⟨x,_ | ⟨a,_ | ⟨b,_ | ⟨c,t⟩⟩⟩⟩<;>first | (simp at h4;done) | exact ⟨_,_,_,_,_,rfl⟩
    have hrl:((x :: a :: b :: c :: t).length:Int) = (t.length:Int)+4:=by simp only [List.length_cons];omega
    have hrl':t.length < 896:=by simp only [List.length_cons] at hr;omega
    have sub:∀ (m:Int) (v:Nat),(t.length:Int)+4 - m = v→evE tabs Γ (.bin .sub (.var 7) (.int m)) ⟨W (x :: a :: b :: c :: t) p q x3 x4 x5 x6 (some (ai (x :: a :: b :: c :: t).length)),fl⟩ = some (ai v,fl):=by
      intro m v h
      exact E_bin (E_var rfl) E_int (sub_ai (by rw [hrl];exact h))
    have hsl:sliceV (as (tx (x :: a :: b :: c :: t).reverse)) (some ((c :: t).length:Int)) (some ((a :: b :: c :: t).length:Int)) = some (as (tx [b,a])):=by
      have:=slice_tx (l:=(x :: a :: b :: c :: t).reverse) (lo:=(c :: t).length) (hi:=(a :: b :: c :: t).length) (by rw [List.length_reverse];exact sm (by simp;omega)) (by simp;omega) (by simp;omega)
      have k1:((x :: a :: b :: c :: t).reverse).take (a :: b :: c :: t).length = (a :: b :: c :: t).reverse:=take_es [x] (a :: b :: c :: t)
      have k2:((a :: b :: c :: t).reverse).drop (c :: t).length = [a,b].reverse:=drop_es [a,b] (c :: t)
      rw [k1,k2] at this
      exact this
    have hin:evE tabs Γ (.cmp .isin (.slice (.var 0) (.bin .sub (.var 7) (.int 3)) (.bin .sub (.var 7) (.int 1))) (.list (strsCA [[97,97],[101,101],[111,111],[117,117]]))) ⟨W (x :: a :: b :: c :: t) p q x3 x4 x5 x6 (some (ai (x :: a :: b :: c :: t).length)),fl⟩ = some (ab (dblV (a :: b :: c :: t)),fl):=by
      rw [dblV_in]
      exact E_cmp (E_slice (E_var rfl) (sub 3 (c :: t).length (by simp only [List.length_cons];omega)) (sub 1 (a :: b :: c :: t).length (by simp only [List.length_cons];omega)) hsl) (E_strs (by decide)) (show cmpV .isin (as (tx [b,a])) (strsL [[97,97],[101,101],[111,111],[117,117]]) = _ from inV_strs [[97,97],[101,101],[111,111],[117,117]] [b,a])
    have t1:evT tabs Γ (.and (.cons (.cmp .ge (.var 7) (.int 4)) (.cons (.cmp .isin (.slice (.var 0) (.bin .sub (.var 7) (.int 3)) (.bin .sub (.var 7) (.int 1))) (.list (strsCA [[97,97],[101,101],[111,111],[117,117]]))) .nil))) ⟨W (x :: a :: b :: c :: t) p q x3 x4 x5 x6 (some (ai (x :: a :: b :: c :: t).length)),fl⟩ = some (dblV (a :: b :: c :: t),fl):=by
      have:=T_of (E_and2 g4 (fun _=>hin))
      rw [decide_eq_true h4,Bool.true_and] at this
      exact this
    have i4:=idx_R (e:=[x,a,b]) (x:=c) (s:=t) (by simp;omega)
    have i1:=idx_R (e:=[]) (x:=x) (s:=a :: b :: c :: t) (by simp;omega)
    simp only [List.cons_append,List.nil_append] at i4 i1
    have ex1:evE tabs Γ (.idx (.var 0) (.bin .sub (.var 7) (.int 1))) ⟨W (x :: a :: b :: c :: t) p q x3 x4 x5 x6 (some (ai (x :: a :: b :: c :: t).length)),fl⟩ = some (as (chr1 x),fl):=E_idx (E_var rfl) (sub 1 (a :: b :: c :: t).length (by simp only [List.length_cons];omega)) i1
    have t2:evT tabs Γ (.and (.cons (.cmp .notin (.idx (.var 0) (.bin .sub (.var 7) (.int 4))) (.glob (.ofString "_law_vowels"))) (.cons (.cmp .notin (.idx (.var 0) (.bin .sub (.var 7) (.int 1))) (.bin .add (.glob (.ofString "_law_vowels")) (.list (.cons (.str ⟨#[73]⟩) .nil)))) .nil))) ⟨W (x :: a :: b :: c :: t) p q x3 x4 x5 x6 (some (ai (x :: a :: b :: c :: t).length)),fl⟩ = some (!isV c && !isVI x,fl):=by
      refine T_of (E_and2 (E_cmp (E_idx (E_var rfl) (sub 4 t.length (by omega)) i4) glob_v ?_) (fun _=>E_cmp ex1 E_vI ?_))
      · show (inV (chr1 c) (setL vow)).map (!·) = _
        rw [inV_set];rfl
      · show (inV (chr1 x) (setL (vow ++ [73]))).map (!·) = _
        rw [inV_set,vI_eq];rfl
    have hadd:evE tabs Γ (.bin .add (.sliceTo (.var 0) (.bin .sub (.var 7) (.int 2))) (.idx (.var 0) (.bin .sub (.var 7) (.int 1)))) ⟨W (x :: a :: b :: c :: t) p q x3 x4 x5 x6 (some (ai (x :: a :: b :: c :: t).length)),fl⟩ = some (as (tx (x :: b :: c :: t).reverse),fl):=by
      have hc:=cut_R (e:=[x,a]) (s:=b :: c :: t) (by simp;omega)
      simp only [List.cons_append,List.nil_append] at hc
      have ha:=add_R (s:=b :: c :: t) (y:=[x]) (by simp;omega) (by simp)
      exact E_bin (E_sliceTo (E_var rfl) (sub 2 (b :: c :: t).length (by simp only [List.length_cons];omega)) hc) ex1 ha
    cases hdv:dblV (a :: b :: c :: t) with
    | false=>
      rw [hdv] at t1
      have:step5 (x :: a :: b :: c :: t) = x :: a :: b :: c :: t:=by simp [step5,hdv]
      rw [this,B_skip t1]
    | true=>
      rw [hdv] at t1
      cases hcx:!isV c && !isVI x with
      | false=>
        rw [hcx] at t2
        have:step5 (x :: a :: b :: c :: t) = x :: a :: b :: c :: t:=by
          have:(!isVI x && (true && shut (c :: t))) = false:=by rw [Bool.true_and,Bool.and_comm];exact hcx
          simp only [step5,hdv,List.drop_succ_cons,List.drop_zero,this];rfl
        rw [this,B_next ((S_true t1).trans ((B_skip t2).trans B_nil))]
      | true=>
        rw [hcx] at t2
        have:step5 (x :: a :: b :: c :: t) = x :: b :: c :: t:=by
          have:(!isVI x && (true && shut (c :: t))) = true:=by rw [Bool.true_and,Bool.and_comm];exact hcx
          simp only [step5,hdv,List.drop_succ_cons,List.drop_zero,this];rfl
        rw [this,B_next ((S_true t1).trans (B_one.trans ((S_true t2).trans ((B_next (S_assign hadd rfl rfl)).trans B_nil))))]
        rfl
  · have t1:evT tabs Γ (.and (.cons (.cmp .ge (.var 7) (.int 4)) (.cons (.cmp .isin (.slice (.var 0) (.bin .sub (.var 7) (.int 3)) (.bin .sub (.var 7) (.int 1))) (.list (strsCA [[97,97],[101,101],[111,111],[117,117]]))) .nil))) ⟨W r p q x3 x4 x5 x6 (some (ai r.length)),fl⟩ = some (false && true,fl):=by
      rw [decide_eq_false h4] at g4
      exact T_of (E_and2 (vb:=true) g4 (fun h=>by cases h))
    have:step5 r = r:=by
      rcases r with _ | ⟨x,_ | ⟨a,_ | ⟨b,_ | ⟨c,t⟩⟩⟩⟩
      · rfl
      · rfl
      · have:dblV [a] = false:=by simp [dblV,end5,List.isPrefixOf]
        simp [step5,this]
      · simp [step5,shut]
      · simp at h4
    rw [this,B_skip t1]
noncomputable abbrev sF:CE:=.join (.comp (.ite (.cmp .eq (.var 0) (.str ⟨#[73]⟩)) (.str ⟨#[105]⟩) (.ite (.cmp .eq (.var 0) (.str ⟨#[89]⟩)) (.str ⟨#[121]⟩) (.var 0))) (.var 0) [])
theorem join_list {d:List Nat} (h:d.length < 1000):joinV (setL d) = some (as (tx d)):=join_own (d:=d) h
theorem lawF (hl:l.length < 1000) {σ:AS} {loc:List (Option AV)} (h0:loc[0]? = some (some (as (tx l)))) (ho:hasOwn ⟨loc,fl⟩ = false):evE tabs Γ sF ⟨loc,fl⟩ = some (as (tx (l.map unmark)),fl):=by
  have hf:∀ x ∈ l,(fun (a:Atom) (fl:FL)=>evE tabs Γ (.ite (.cmp .eq (.var 0) (.str ⟨#[73]⟩)) (.str ⟨#[105]⟩) (.ite (.cmp .eq (.var 0) (.str ⟨#[89]⟩)) (.str ⟨#[121]⟩) (.var 0))) ⟨[some (.at a)],fl⟩) (Atom.str (chr1 x)) fl = some (.at (Atom.str (chr1 (unmark x))),fl):=by
    intro x _
    show evE tabs Γ _ ⟨[some (as (chr1 x))],fl⟩ = some (as (chr1 (unmark x)),fl)
    have hv:evE tabs Γ (.var 0) ⟨[some (as (chr1 x))],fl⟩ = some (as (chr1 x),fl):=E_var rfl
    have e1:evE tabs Γ (.cmp .eq (.var 0) (.str ⟨#[73]⟩)) ⟨[some (as (chr1 x))],fl⟩ = some (ab (x == 73),fl):=E_cmp hv E_str (congrArg some (chr1_eq x 73))
    have e2:evE tabs Γ (.cmp .eq (.var 0) (.str ⟨#[89]⟩)) ⟨[some (as (chr1 x))],fl⟩ = some (ab (x == 89),fl):=E_cmp hv E_str (congrArg some (chr1_eq x 89))
    rw [E_ite e1]
    unfold unmark
    by_cases h1:x = 73
    · subst h1;rw [if_pos (by decide),if_pos rfl];exact E_str
    · rw [if_neg (by simpa using h1),if_neg h1,E_ite e2]
      by_cases h2:x = 89
      · subst h2;rw [if_pos (by decide),if_pos rfl];exact E_str
      · rw [if_neg (by simpa using h2),if_neg h2];exact hv
  have v1:evE tabs Γ (.var 0) ⟨loc,fl⟩ = some (as (tx l),fl):=E_var h0
  exact E_join (E_comp (cs:=[]) ho v1 (iter_str hl) rfl ((evMap_eq l hf).trans (congrArg (fun z=>some (z,fl)) (List.map_map (f:=unmark) (g:=fun x=>Atom.str (chr1 x)) (l:=l)).symm))) (join_list (show (l.map unmark).length < 1000 by rw [List.length_map];exact hl))
theorem bl_ge:∀ (t:List Nat) (v:Bool) (i y:Nat),y ∈ bl v i t→(if v then i+1 else i+2) ≤ y
  | [],_,_,_,h=>by simp [bl] at h
  | x :: t,v,i,y,h=>by
    rw [bl] at h
    split at h
    · rename_i hc
      obtain ⟨h1,h2⟩:=Bool.and_eq_true_iff.mp hc
      subst h1
      rw [if_pos rfl]
      rcases List.mem_cons.mp h with h | h
      · omega
      · have:=bl_ge t false (i+1) y h
        rw [if_neg (by decide)] at this
        omega
    · have:=bl_ge t (isV x) (i+1) y h
      cases v<;>split at this<;>simp<;>omega
theorem bl_two:∀ (t:List Nat) (v:Bool) (i a b:Nat) (R:List Nat),bl v i t = a :: b :: R→i+3 ≤ b
  | [],_,_,_,_,_,h=>by simp [bl] at h
  | x :: t,v,i,a,b,R,h=>by
    rw [bl] at h
    split at h
    · have h2:=(List.cons.inj h).2
      have:=bl_ge t false (i+1) b (by rw [h2];simp)
      rw [if_neg (by decide)] at this
      omega
    · have:=bl_two t (isV x) (i+1) a b R h
      omega
theorem second_ok (l:List Nat):3 ≤ second l ∨ l.length ≤ second l:=by
  unfold second
  split
  · rename_i a b R h
    have:=bl_two l false 0 a b R h
    omega
  · exact .inr (Nat.le_refl _)
theorem first_ok (l:List Nat):3 ≤ first l ∨ l.length ≤ first l:=by
  unfold first
  split
  · exact .inr (Nat.le_refl _)
  · exact .inl (Nat.le_max_left ..)
end Mine
namespace Mine
variable {n:Nat} {Γ:Call} {N:Nat} {fl:FL} {r e s l:List Nat} {p q:Nat}
theorem step1_id (h:r.length ≤ p):step1 p r = r:=by
  obtain ⟨e,s,hes,hl,hc⟩:=end3_split r
  have hd:r.drop (end3 r).1 = s:=by
    rw [hl]
    conv=>lhs;rw [hes]
    rw [List.drop_left]
  have hlen:=congrArg List.length hes
  rw [List.length_append] at hlen
  unfold step1
  rw [hd]
  rcases hc with h0 | ⟨hne,hc⟩
  · rw [if_pos h0]
  · have:0 < e.length:=List.length_pos_iff.mpr hne
    have hp:¬ p ≤ s.length:=by omega
    simp [hp,lessEn]
theorem lessE_id (h:r.length ≤ p):lessE p r = none:=by
  unfold lessE
  split
  · rfl
  · rename_i x s
    have:¬ p ≤ s.length:=by simp only [List.length_cons] at h;omega
    simp [this]
theorem step3_id (h:r.length ≤ q):step3 p q r = r:=by
  unfold step3
  split
  · rename_i hp
    obtain ⟨s,rfl⟩:=pre_ex hp
    have:¬ q ≤ s.length:=by simp at h;omega
    simp [this]
  · rfl
theorem step4_id {v:Bool} (h:r.length ≤ q):step4 p q v r = r:=by
  obtain ⟨e,s,hes,hl,hc⟩:=end4_split r
  have hd:r.drop (end4 r).1 = s:=by
    rw [hl]
    conv=>lhs;rw [hes]
    rw [List.drop_left]
  have hlen:=congrArg List.length hes
  rw [List.length_append] at hlen
  unfold step4
  rw [hd]
  rcases hc with h0 | ⟨hne,hc⟩
  · rw [if_pos h0]
  · have:0 < e.length:=List.length_pos_iff.mpr hne
    have hp:¬ q ≤ s.length:=by omega
    simp [hp]
theorem suffix_id (h:r.length ≤ p) (h2:r.length ≤ q):suffix p q r = step5 r:=by
  unfold suffix step2
  rw [step1_id h,lessE_id h]
  simp only [Option.getD_none]
  rw [step3_id h2,step4_id h2]
noncomputable def stemL (l:List Nat):List Nat:=((suffix (first (marked l)) (second (marked l)) (marked l).reverse).reverse).map unmark
theorem agree (l:List Nat):stemW l = stemL l:=by
  unfold stemW stemL
  generalize marked l = m
  unfold p1of p2of
  by_cases h:m.length < 3
  · rw [if_pos h,if_pos h]
    have h1:m.length ≤ first m:=by have:=first_ok m;omega
    have h2:m.length ≤ second m:=by have:=second_ok m;omega
    rw [suffix_id (by simp) (by simp),suffix_id (by simpa using h1) (by simpa using h2)]
  · rw [if_neg h,if_neg h]
theorem S_assign2 {T:Tabs} {σ:AS} {i j:Nat} {e:CE} {a b:Atom} (h:evE T Γ e σ = some (.tup [a,b],fl)) (hi:okSet i σ = true) (hj:okSet j σ = true):evS T Γ N (.assign2 i j e) σ = some (bindV j (.at b) (bindV i (.at a) σ fl) fl,.next):=by
  refine (congrArg (ob · fun v fl=>tup2 v fun a b=>if okSet i σ && okSet j σ then some (bindV j (.at b) (bindV i (.at a) σ fl) fl,Out.next) else none) h).trans ?_
  show (if okSet i σ && okSet j σ then some (bindV j (.at b) (bindV i (.at a) σ fl) fl,Out.next) else none) = _
  rw [hi,hj];rfl
theorem law_stem_spec (hl:l.length < 900):cl (n+5) 35 [as (tx l)] fl = some (as (tx (stemL l)),fl):=by
  rw [cl_at (F:=⟨1,_,c_law_stem⟩) rfl rfl]
  show retOf (evB tabs (cl (n+4)) 1000 (.cons (.assign 0 (.callG 28 (.cons (.var 0) .nil))) (.cons (.assign2 1 2 (.callG 29 (.cons (.var 0) .nil))) (.cons sA3 (.cons sA4 (.cons sA5 (.cons (.assign 4 (.callG 34 (.cons (.var 0) (.cons (.var 1) .nil)))) (.cons (.assign 5 (.cmp .ne (.var 4) (.var 0))) (.cons (.assign 0 (.var 4)) (.cons sC (.cons sD3 (.cons sA4 (.cons sD5 (.cons (.assign 7 (.len (.var 0))) (.cons sE (.cons (.ret sF) .nil)))))))))))))))
    ⟨[some (as (tx l)),none,none,none,none,none,none,none],fl⟩) = _
  unfold stemL
  have h0:evE tabs (cl (n+4)) (.callG 28 (.cons (.var 0) .nil)) ⟨[some (as (tx l)),none,none,none,none,none,none,none],fl⟩ = some (as (tx (marked l)),fl):=E_callG (A1 (E_var rfl)) rfl rfl (marked_spec (n:=n+2) hl)
  have hm:=marked_len l
  generalize marked l = m at h0 hm
  rw [B_next (σ':=⟨[some (as (tx m)),none,none,none,none,none,none,none],fl⟩) (S_assign h0 rfl rfl)]
  have h1:evE tabs (cl (n+4)) (.callG 29 (.cons (.var 0) .nil)) ⟨[some (as (tx m)),none,none,none,none,none,none,none],fl⟩ = some (.tup [.int (first m),.int (second m)],fl):=E_callG (A1 (E_var rfl)) rfl rfl (law_regions_spec (n:=n+3) (by omega))
  have hP:=first_ok m
  have hQ:=second_ok m
  generalize first m = p at h1 hP
  generalize second m = q at h1 hQ
  have em:m = m.reverse.reverse:=by rw [List.reverse_reverse]
  have lm:m.length = m.reverse.length:=by rw [List.length_reverse]
  rw [B_next (σ':=⟨W m.reverse p q none none none none none,fl⟩) ((S_assign2 h1 rfl rfl).trans (by rw [W,List.reverse_reverse];rfl))]
  generalize m.reverse = r at lm
  have hr:r.length < 900:=by omega
  unfold suffix
  have l1:=step1_len p r
  obtain ⟨y3,y4,o3,o4,eA⟩:=lawA (n:=n) (fl:=fl) (q:=q) hr (p:=p) (by omega) (.cons (.assign 4 (.callG 34 (.cons (.var 0) (.cons (.var 1) .nil)))) (.cons (.assign 5 (.cmp .ne (.var 4) (.var 0))) (.cons (.assign 0 (.var 4)) (.cons sC (.cons sD3 (.cons sA4 (.cons sD5 (.cons (.assign 7 (.len (.var 0))) (.cons sE (.cons (.ret sF) .nil))))))))))
  rw [eA]
  generalize step1 p r = r1 at l1
  rw [lawB (by omega) (by omega) o3 o4]
  have l2:(step2 p r1).length ≤ r1.length:=lessE_len p r1
  generalize (lessE p r1).isSome = found
  generalize step2 p r1 = r2 at l2
  obtain ⟨z4,q4,eC⟩:=lawC (n:=n) (fl:=fl) (q:=q) (p:=p) (r:=r2) (x3:=y3) (x4:=some (as (tx r2.reverse))) (x5:=some (ab found)) (by omega) (by omega) o3 rfl rfl (.cons sD3 (.cons sA4 (.cons sD5 (.cons (.assign 7 (.len (.var 0))) (.cons sE (.cons (.ret sF) .nil))))))
  rw [eC]
  have l3:=step3_len p q r2
  generalize step3 p q r2 = r3 at l3
  obtain ⟨w3,w4,w6,v3,v4,v6,eD⟩:=lawD (n:=n) (fl:=fl) (q:=q) (p:=p) (r:=r3) (x3:=y3) (x4:=z4) (found:=found) (by omega) (by omega) (by omega) o3 q4 (.cons (.assign 7 (.len (.var 0))) (.cons sE (.cons (.ret sF) .nil)))
  rw [eD]
  have l4:=step4_len p q found r3
  generalize step4 p q found r3 = r4 at l4
  rw [lawE (by omega)]
  have l5:=step5_len r4
  generalize step5 r4 = r5 at l5
  have hF:=lawF (Γ:=cl (n+4)) (fl:=fl) (l:=r5.reverse) (σ:=⟨[],fl⟩) (loc:=W r5 p q w3 w4 (some (ab found)) w6 (some (ai r4.length))) (by rw [List.length_reverse];omega) rfl (own_W v3 v4 rfl v6 rfl _)
  rw [B_ret (S_ret hF rfl)]
  rfl
noncomputable def Piece (v:AV):Prop:=∃ w:List Nat,w.length < 100∧v = as (tx w)
noncomputable abbrev pieces:List (List Nat):=[[101,110],[101,110,101],[104,101,100,101,110],[115,101],[104,101,105,100],[101,110,104,101,105,100],[99,104,101,105,100],[103,101,109],[103,101,109,101,110],[101,110,100],[105,110,103],[105,103],[101,105,103],[105,103,101,110,100],[101,105,103,105,110,103],[108,105,106,107],[101,108,105,106,107],[108,105,106,107,101],[98,97,97,114],[98,97,114],[98,97,114,101],[100,100],[107,107],[116,116],[100,100,101,110],[107,107,105,110,103],[116,116,101],[97,97],[101,101],[111,111],[117,117],[97,97,110],[101,101,114],[111,111,112],[117,117,114],[97,97,105,101],[97,97,121,101],[105,106,115],[118,101,114],[111,110,116],[98,101],[119,101,114,107],[108,111,111,112],[107,105,110,100],[103,101],[776]]
theorem pieces_spec:cl (n+1) 25 [] fl = some (strsL pieces,fl):=by
  rw [cl_at (F:=⟨0,_,c_law_pieces⟩) rfl rfl]
  show retOf (evB tabs (cl n) 1000 (.cons (.ret (.list (strsCA pieces))) .nil) ⟨[],fl⟩) = _
  rw [B_ret (S_ret (v:=strsL pieces) (E_strs (by decide)) rfl)]
  rfl
theorem glob_s {σ:AS}:evE tabs Γ (.glob (.ofString "_law_signs")) σ = some (.at (.str signsS),σ.fl):=by
  have h:tabs.glob (.ofString "_law_signs") = some (.at (.str signsS)):=by
    show (if (Str.ofString "_law_signs") = .ofString "_law_signs" then some (AV.at (.str signsS)) else if (Str.ofString "_law_signs") = .ofString "_law_vowels" then some (AV.list vowelsL) else none) = _
    rw [if_pos rfl]
  exact congrArg (Option.map fun v=>(v,σ.fl)) h
noncomputable abbrev kWd:CB:=(.cons (.assign 4 (.bin .mod (.var 3) (.int 90))) (.cons (.assign 5 (.ite (.cmp .lt (.var 4) (.int 44)) (.idx (.glob (.ofString "_law_signs")) (.var 4)) (.idx (.callG 25 .nil) (.bin .sub (.var 4) (.int 44))))) (.cons (.ite (.cmp .le (.bin .add (.len (.var 2)) (.len (.var 5))) (.var 1)) (.cons (.assign 2 (.bin .add (.var 2) (.var 5))) .nil) .nil) .nil)))
theorem word_turn {A:AV} (hA:okv (some A) = true) {M:Nat} {w:List Nat} {m:Int} {x4 x5:Option AV} (hM:M ≤ 100) (hw:w.length ≤ M) (o4:okv x4 = true) (o5:okv x5 = true):∃ (w':List Nat) (y4 y5:Option AV),w'.length ≤ M∧okv y4 = true∧okv y5 = true ∧
    evB tabs (cl (n+1)) 1000 kWd ⟨[some A,some (ai M),some (as (tx w)),vI m,x4,x5],fl⟩ = some (⟨[some A,some (ai M),some (as (tx w')),vI m,y4,y5],fl⟩,.next):=by
  have hm0:0 ≤ m.fmod 90:=Int.fmod_nonneg_of_pos m (by omega)
  have hm1:m.fmod 90 < 90:=Int.fmod_lt_of_pos m (by omega)
  obtain ⟨j,hj⟩:∃ j:Nat,m.fmod 90 = j:=⟨(m.fmod 90).toNat,by omega⟩
  rw [hj] at hm1
  have h4:evE tabs (cl (n+1)) (.bin .mod (.var 3) (.int 90)) ⟨[some A,some (ai M),some (as (tx w)),vI m,x4,x5],fl⟩ = some (ai j,fl):=by
    refine E_bin (E_var rfl) E_int ?_
    show (if (0:Int) < 90 then some (ai (m.fmod 90)) else none) = _
    rw [if_pos (by decide),hj]
  have s4:evS tabs (cl (n+1)) 1000 (.assign 4 (.bin .mod (.var 3) (.int 90))) ⟨[some A,some (ai M),some (as (tx w)),vI m,x4,x5],fl⟩ = some (⟨[some A,some (ai M),some (as (tx w)),vI m,some (ai j),x5],fl⟩,.next):=S_assign h4 rfl (by simp [okSet_eq,o4])
  obtain ⟨pc,hpc,h5⟩:∃ pc:List Nat,pc.length < 100∧evE tabs (cl (n+1)) (.ite (.cmp .lt (.var 4) (.int 44)) (.idx (.glob (.ofString "_law_signs")) (.var 4)) (.idx (.callG 25 .nil) (.bin .sub (.var 4) (.int 44)))) ⟨[some A,some (ai M),some (as (tx w)),vI m,some (ai j),x5],fl⟩ = some (as (tx pc),fl):=by
    have ht:evE tabs (cl (n+1)) (.cmp .lt (.var 4) (.int 44)) ⟨[some A,some (ai M),some (as (tx w)),vI m,some (ai j),x5],fl⟩ = some (ab (decide ((j:Int) < 44)),fl):=E_cmp (E_var rfl) E_int rfl
    by_cases hj4:(j:Int) < 44
    · have hjl:j < signsS.cps.size:=by show j < 44;omega
      refine ⟨[signsS.cps[j]],by simp,?_⟩
      rw [E_ite ht,if_pos (by simpa using hj4)]
      refine E_idx glob_s (E_var rfl) ?_
      show iff (decide (0 ≤ (j:Int))) (iff (small signsS.length) ((signsS.cps[(j:Int).toNat]?).map fun c=>as (chr1 c))) = _
      rw [decide_eq_true (Int.natCast_nonneg j),Int.toNat_natCast,Array.getElem?_eq_getElem hjl]
      rfl
    · have hjl:j - 44 < pieces.length:=by show j - 44 < 46;omega
      have hall:∀ x ∈ pieces,x.length < 100:=by decide
      refine ⟨pieces[j - 44],hall _ (List.getElem_mem hjl),?_⟩
      rw [E_ite ht,if_neg (by simpa using hj4)]
      have hpcs:evE tabs (cl (n+1)) (.callG 25 .nil) ⟨[some A,some (ai M),some (as (tx w)),vI m,some (ai j),x5],fl⟩ = some (strsL pieces,fl):=E_callG A_nil rfl (by simp [hasOwn_eq,o5,hA,ai,as]) pieces_spec
      refine E_idx hpcs (E_bin (v:=ai ((j - 44:Nat):Int)) (E_var rfl) E_int (sub_ai (by omega))) ?_
      exact idx_lst (by decide) (by rw [List.getElem?_map,List.getElem?_eq_getElem hjl];rfl)
  have s5:evS tabs (cl (n+1)) 1000 (.assign 5 (.ite (.cmp .lt (.var 4) (.int 44)) (.idx (.glob (.ofString "_law_signs")) (.var 4)) (.idx (.callG 25 .nil) (.bin .sub (.var 4) (.int 44))))) ⟨[some A,some (ai M),some (as (tx w)),vI m,some (ai j),x5],fl⟩ = some (⟨[some A,some (ai M),some (as (tx w)),vI m,some (ai j),some (as (tx pc))],fl⟩,.next):=S_assign h5 rfl (by simp [okSet_eq,o5])
  have t6:evT tabs (cl (n+1)) (.cmp .le (.bin .add (.len (.var 2)) (.len (.var 5))) (.var 1)) ⟨[some A,some (ai M),some (as (tx w)),vI m,some (ai j),some (as (tx pc))],fl⟩ = some (decide (w.length+pc.length ≤ M),fl):=by
    refine T_of (E_cmp (E_bin (v:=ai ((w.length:Int)+pc.length)) (E_len (E_var rfl) (len_tx (sm (by omega)))) (E_len (E_var rfl) (len_tx (sm (by omega)))) rfl) (E_var rfl) ?_)
    show some (decide ((w.length:Int)+pc.length ≤ M)) = _
    rw [decide_eq_decide.mpr (show (w.length:Int)+pc.length ≤ M ↔ w.length+pc.length ≤ M by omega)]
  by_cases hle:w.length+pc.length ≤ M
  · rw [decide_eq_true hle] at t6
    refine ⟨w ++ pc,some (ai j),some (as (tx pc)),by simpa using hle,rfl,rfl,?_⟩
    have ha:evE tabs (cl (n+1)) (.bin .add (.var 2) (.var 5)) ⟨[some A,some (ai M),some (as (tx w)),vI m,some (ai j),some (as (tx pc))],fl⟩ = some (as (tx (w ++ pc)),fl):=E_bin (E_var rfl) (E_var rfl) (add_tx (by simp only [small,decide_eq_true_eq];omega))
    exact (B_next s4).trans ((B_next s5).trans (B_one.trans ((S_true t6).trans ((B_next (S_assign ha rfl rfl)).trans B_nil))))
  · rw [decide_eq_false hle] at t6
    exact ⟨w,some (ai j),some (as (tx pc)),hw,rfl,rfl,(B_next s4).trans ((B_next s5).trans ((B_skip t6).trans B_nil))⟩
theorem word_loop {A:AV} (hA:okv (some A) = true) {M:Nat} (hM:M ≤ 100):∀ (ns:List Int) (w:List Nat) (x3 x4 x5:Option AV),w.length ≤ M→okv x3 = true→okv x4 = true→okv x5 = true→
    ∃ (w':List Nat) (y3 y4 y5:Option AV),w'.length ≤ M∧forN 3 (fun σ=>evB tabs (cl (n+1)) 1000 kWd σ) (ns.map Atom.int) ⟨[some A,some (ai M),some (as (tx w)),x3,x4,x5],fl⟩ = some (⟨[some A,some (ai M),some (as (tx w')),y3,y4,y5],fl⟩,.next)
  | [],w,x3,x4,x5,hw,_,_,_=>⟨w,x3,x4,x5,hw,rfl⟩
  | m :: ns,w,x3,x4,x5,hw,o3,o4,o5=>by
    obtain ⟨w1,y4,y5,h1,q4,q5,e1⟩:=word_turn (n:=n) (fl:=fl) hA (m:=m) hM hw o4 o5
    obtain ⟨w2,z3,z4,z5,h2,e2⟩:=word_loop hA hM ns w1 (vI m) y4 y5 h1 rfl q4 q5
    refine ⟨w2,z3,z4,z5,h2,?_⟩
    rw [List.map_cons]
    exact (for_next (by simp [okSet_eq,o3]) e1).trans e2
theorem law_word_spec {M:Nat} (hM:M ≤ 100) {ns:List Int} (hn:ns.length < 1000):∃ w:List Nat,w.length ≤ M∧cl (n+2) 27 [.list (ns.map Atom.int),ai M] fl = some (as (tx w),fl):=by
  obtain ⟨w,y3,y4,y5,hw,h⟩:=word_loop (n:=n) (fl:=fl) (A:=.list (ns.map Atom.int)) rfl hM ns [] none none none (by simp) rfl rfl rfl
  refine ⟨w,hw,?_⟩
  rw [cl_at (F:=⟨2,_,c_law_word⟩) rfl rfl]
  show retOf (evB tabs (cl (n+1)) 1000 (.cons (.assign 2 (.str (tx []))) (.cons (.for 3 (.var 0) kWd) (.cons (.ret (.var 2)) .nil))) ⟨[some (.list (ns.map Atom.int)),some (ai M),none,none,none,none],fl⟩) = _
  rw [B_next (σ':=⟨[some (.list (ns.map Atom.int)),some (ai M),some (as (tx [])),none,none,none],fl⟩) (S_assign E_str rfl rfl)]
  have hf:evS tabs (cl (n+1)) 1000 (.for 3 (.var 0) kWd) ⟨[some (.list (ns.map Atom.int)),some (ai M),some (as (tx [])),none,none,none],fl⟩ = some (⟨[some (.list (ns.map Atom.int)),some (ai M),some (as (tx w)),y3,y4,y5],fl⟩,.next):=by
    exact (S_for (E_var rfl) (iter_list (by rw [List.length_map];exact hn))).trans h
  rw [B_next hf,B_ret (S_ret (v:=as (tx w)) (E_var rfl) rfl)]
  rfl
end Mine
namespace Mine
variable {l:List Int}
theorem slice_list {L:List Atom} {lo hi:Nat} (hL:L.length < 1000) (h1:lo < 1000) (h2:hi < 1000):sliceV (.list L) (some (lo:Int)) (some (hi:Int)) = some (.list ((L.take hi).drop lo)):=by
  show iff (small L.length && (decide (0 ≤ (lo:Int)) && (decide (0 ≤ (hi:Int)) && (decide ((lo:Int) < 2 ^ 62) && decide ((hi:Int) < 2 ^ 62))))) _ = _
  rw [sm hL,decide_eq_true (Int.natCast_nonneg lo),decide_eq_true (Int.natCast_nonneg hi),lt62 h1,lt62 h2]
  rfl
theorem sliceTo_list {L:List Atom} {hi:Nat} (hL:L.length < 1000) (h2:hi < 1000):sliceV (.list L) none (some (hi:Int)) = some (.list (L.take hi)):=by
  show iff (small L.length && (true && (decide (0 ≤ (hi:Int)) && (true && decide ((hi:Int) < 2 ^ 62))))) _ = _
  rw [sm hL,decide_eq_true (Int.natCast_nonneg hi),lt62 h2]
  rfl
theorem init_gives:∃ fl1,Nine fl1∧cl 40 0 [.at .me] flE = some (.at (.cst .none),fl1):=by
  have h:=set_spec (n:=38) (l:=[]) rfl none none none none none none none none none
  refine ⟨mkF [] 0 0 0 0 0 none none none,⟨_,_,_,_,_,_,_,_,_,rfl⟩,?_⟩
  show cl (39+1) 0 [.at .me] flE = _
  rw [cl_at (F:=⟨1,_,c_init⟩) rfl rfl]
  have h2:evE tabs (cl 39) (.callM 0 1 (.cons (.str ⟨#[]⟩) .nil)) ⟨[some (.at .me)],flE⟩ = some (.at (.cst .none),mkF [] 0 0 0 0 0 none none none):=E_callM rfl A_str rfl rfl h
  show retOf (evB tabs (cl 39) 1000 (.cons (.expr (.callM 0 1 (.cons (.str ⟨#[]⟩) .nil))) .nil) ⟨[some (.at .me)],flE⟩) = _
  rw [B_next (S_expr h2),B_nil]
  rfl
theorem law1_gives (hl:l.length ≤ 63):∃ w1 w2 w3:List Nat,w1.length ≤ 24∧w2.length ≤ 16∧w3.length ≤ 16 ∧
    evB tabs (cl 40) 1000 c_law1 (lawIn l) = some (⟨[some (.list (l.map Atom.int)),some (as (tx w1)),some (as (tx w2)),some (as (tx w3)),none],[]⟩,.next):=by
  have hL:(l.map Atom.int).length < 1000:=by rw [List.length_map];omega
  obtain ⟨w1,k1,e1⟩:=law_word_spec (n:=38) (fl:=[]) (M:=24) (by omega) (ns:=l.take 7) (by simp;omega)
  obtain ⟨w2,k2,e2⟩:=law_word_spec (n:=38) (fl:=[]) (M:=16) (by omega) (ns:=(l.take 11).drop 7) (by simp;omega)
  obtain ⟨w3,k3,e3⟩:=law_word_spec (n:=38) (fl:=[]) (M:=16) (by omega) (ns:=(l.take 12).drop 11) (by simp;omega)
  refine ⟨w1,w2,w3,k1,k2,k3,?_⟩
  have m1:(l.take 7).map Atom.int = (l.map Atom.int).take 7:=List.map_take ..
  have m2:((l.take 11).drop 7).map Atom.int = ((l.map Atom.int).take 11).drop 7:=by rw [List.map_drop,List.map_take]
  have m3:((l.take 12).drop 11).map Atom.int = ((l.map Atom.int).take 12).drop 11:=by rw [List.map_drop,List.map_take]
  rw [m1] at e1
  rw [m2] at e2
  rw [m3] at e3
  rw [show lawIn l = ⟨[some (.list (l.map Atom.int)),none,none,none,none],[]⟩ from rfl]
  generalize l.map Atom.int = L at hL e1 e2 e3 ⊢
  have c1:evE tabs (cl 40) (.callG 27 (.cons (.sliceTo (.var 0) (.int 7)) (.cons (.int 24) .nil))) ⟨[some (.list L),none,none,none,none],[]⟩ = some (as (tx w1),[]):=
    E_callG (A2 (E_sliceTo (h:=7) (E_var rfl) E_int (sliceTo_list (hi:=7) hL (by omega))) E_int) rfl rfl e1
  have c2:evE tabs (cl 40) (.callG 27 (.cons (.slice (.var 0) (.int 7) (.int 11)) (.cons (.int 16) .nil))) ⟨[some (.list L),some (as (tx w1)),none,none,none],[]⟩ = some (as (tx w2),[]):=
    E_callG (A2 (E_slice (lo:=7) (hi:=11) (E_var rfl) E_int E_int (slice_list (lo:=7) (hi:=11) hL (by omega) (by omega))) E_int) rfl rfl e2
  have c3:evE tabs (cl 40) (.callG 27 (.cons (.slice (.var 0) (.int 11) (.int 12)) (.cons (.int 16) .nil))) ⟨[some (.list L),some (as (tx w1)),some (as (tx w2)),none,none],[]⟩ = some (as (tx w3),[]):=
    E_callG (A2 (E_slice (lo:=11) (hi:=12) (E_var rfl) E_int E_int (slice_list (lo:=11) (hi:=12) hL (by omega) (by omega))) E_int) rfl rfl e3
  unfold c_law1
  refine (B_next (σ':=⟨[some (.list L),some (as (tx w1)),none,none,none],[]⟩) (S_assign c1 rfl rfl)).trans ?_
  refine (B_next (σ':=⟨[some (.list L),some (as (tx w1)),some (as (tx w2)),none,none],[]⟩) (S_assign c2 rfl rfl)).trans ?_
  exact (B_next (S_assign c3 rfl rfl)).trans B_nil
theorem law2_gives {A:AV} (hA:okv (some A) = true) {w1 w2 w3:List Nat} (h1:w1.length ≤ 24) (h2:w2.length ≤ 16) (h3:w3.length ≤ 16) {fl:FL} (hn:Nine fl):∃ σ',evB tabs (cl 40) 1000 c_law2 ⟨[some A,some (as (tx w1)),some (as (tx w2)),some (as (tx w3)),some (.at .me)],fl⟩ = some (σ',.ret (ab true)):=by
  have ho:∀ fl,hasOwn ⟨[some A,some (as (tx w1)),some (as (tx w2)),some (as (tx w3)),some (.at .me)],fl⟩ = false:=by intro fl;simp [hasOwn_eq,hA,as]
  obtain ⟨fl1,n1,e1⟩:=word_spec (n:=31) hn (l:=w1) (by omega)
  obtain ⟨fl2,n2,e2⟩:=words_spec (n:=30) n1 (u:=w2) (v:=w3) (by omega) (by omega)
  have d1:=law_stem_spec (n:=35) (fl:=fl1) (l:=w1) (by omega)
  have d2:=law_stem_spec (n:=35) (fl:=fl2) (l:=w2) (by omega)
  have d3:=law_stem_spec (n:=35) (fl:=fl2) (l:=w3) (by omega)
  rw [agree] at e1
  rw [agree,agree] at e2
  have a1:evE tabs (cl 40) (.callM 4 13 (.cons (.var 1) .nil)) ⟨[some A,some (as (tx w1)),some (as (tx w2)),some (as (tx w3)),some (.at .me)],fl⟩ = some (as (tx (stemL w1)),fl1):=E_callM rfl (A1 (E_var rfl)) rfl (ho _) e1
  have b1:evE tabs (cl 40) (.callG 35 (.cons (.var 1) .nil)) ⟨[some A,some (as (tx w1)),some (as (tx w2)),some (as (tx w3)),some (.at .me)],fl1⟩ = some (as (tx (stemL w1)),fl1):=E_callG (A1 (E_var rfl)) rfl (ho _) d1
  have t1:evT tabs (cl 40) (.cmp .ne (.callM 4 13 (.cons (.var 1) .nil)) (.callG 35 (.cons (.var 1) .nil))) ⟨[some A,some (as (tx w1)),some (as (tx w2)),some (as (tx w3)),some (.at .me)],fl⟩ = some (false,fl1):=by
    refine T_cmp a1 b1 ?_
    show some (tx (stemL w1) != tx (stemL w1)) = _
    rw [bne_self_eq_false]
  have hlist:∀ (a b:CE) (x y:Str) (fl:FL),evE tabs (cl 40) a ⟨[some A,some (as (tx w1)),some (as (tx w2)),some (as (tx w3)),some (.at .me)],fl⟩ = some (as x,fl)→evE tabs (cl 40) b ⟨[some A,some (as (tx w1)),some (as (tx w2)),some (as (tx w3)),some (.at .me)],fl⟩ = some (as y,fl)→
      evE tabs (cl 40) (.list (.cons a (.cons b .nil))) ⟨[some A,some (as (tx w1)),some (as (tx w2)),some (as (tx w3)),some (.at .me)],fl⟩ = some (.list [.str x,.str y],fl):=by
    intro a b x y fl ha hb
    exact congrArg (obL · fun vs fl=>(listV vs).map fun as=>(AV.list as,fl)) ((congrArg (ob · fun v fl=>obL (evA tabs (cl 40) (.cons b .nil) ⟨[some A,some (as (tx w1)),some (as (tx w2)),some (as (tx w3)),some (.at .me)],fl⟩) fun vs fl'=>some (v :: vs,fl')) ha).trans (congrArg (obL · fun vs fl'=>some (as x :: vs,fl')) (A1 hb)))
  have a2:evE tabs (cl 40) (.callM 4 14 (.cons (.list (.cons (.var 2) (.cons (.var 3) .nil))) .nil)) ⟨[some A,some (as (tx w1)),some (as (tx w2)),some (as (tx w3)),some (.at .me)],fl1⟩ = some (.list [.str (tx (stemL w2)),.str (tx (stemL w3))],fl2):=E_callM rfl (A1 (hlist _ _ _ _ _ (E_var rfl) (E_var rfl))) rfl (ho _) e2
  have b2:evE tabs (cl 40) (.callG 35 (.cons (.var 2) .nil)) ⟨[some A,some (as (tx w1)),some (as (tx w2)),some (as (tx w3)),some (.at .me)],fl2⟩ = some (as (tx (stemL w2)),fl2):=E_callG (A1 (E_var rfl)) rfl (ho _) d2
  have b3:evE tabs (cl 40) (.callG 35 (.cons (.var 3) .nil)) ⟨[some A,some (as (tx w1)),some (as (tx w2)),some (as (tx w3)),some (.at .me)],fl2⟩ = some (as (tx (stemL w3)),fl2):=E_callG (A1 (E_var rfl)) rfl (ho _) d3
  have b4:=hlist _ _ _ _ _ b2 b3
  have c2:evE tabs (cl 40) (.cmp .eq (.callM 4 14 (.cons (.list (.cons (.var 2) (.cons (.var 3) .nil))) .nil)) (.list (.cons (.callG 35 (.cons (.var 2) .nil)) (.cons (.callG 35 (.cons (.var 3) .nil)) .nil)))) ⟨[some A,some (as (tx w1)),some (as (tx w2)),some (as (tx w3)),some (.at .me)],fl1⟩ = some (ab true,fl2):=by
    refine E_cmp' a2 b4 ?_
    show ((strsOf [.str (tx (stemL w2)),.str (tx (stemL w3))]).bind fun a=>(strsOf [.str (tx (stemL w2)),.str (tx (stemL w3))]).bind fun b=>iff (decide (a = b)) (some true)) = _
    exact congrArg (iff · (some true)) (decide_eq_true rfl)
  unfold c_law2
  exact ⟨_,(B_skip t1).trans (B_ret (S_ret c2 rfl))⟩
theorem law_all (l:List Int) (hl:l.length ≤ 63):LawGives l:=by
  obtain ⟨w1,w2,w3,k1,k2,k3,e1⟩:=law1_gives hl
  obtain ⟨fl1,n1,e2⟩:=init_gives
  obtain ⟨σ',e3⟩:=law2_gives (A:=.list (l.map Atom.int)) rfl k1 k2 k3 n1
  exact ⟨_,fl1,σ',e1,rfl,rfl,e2,e3⟩
end Mine
namespace Mine
noncomputable def rS:OpenLaw:={ prog:=pS,name:=(PySem.Str.ofString "law"),about:=[(PySem.Str.ofString "BaseStemmer"),(PySem.Str.ofString "stemWord")],foot:=14,most:=some 63,bound:=none,writes:=false }
theorem rw_is:PySem.Challenge.rw_ip0004_01 = rS:=congrArg (fun p=>({ prog:=p,name:=(PySem.Str.ofString "law"),about:=[(PySem.Str.ofString "BaseStemmer"),(PySem.Str.ofString "stemWord")],foot:=14,most:=some 63,bound:=none,writes:=false }:OpenLaw)) pw_is
theorem sk1:(sreFenced pS.main && ((moduleNames pS.main.body).isEmpty || lookedIntoSs (moduleNames pS.main.body) pS.main.body)) = true:=by kernel_rfl!
theorem sk2:namesResolve pS = true:=by kernel_rfl!
theorem sk3:pS.boundNames.all (fun n=>!worldNames.contains n) = true:=by kernel_rfl!
theorem sk4:noRoadLSs { strict:=!(importedModules pS.main.body).all cThrough.contains,foot:=none,bare:=(["vars","dir","locals"]:List Str).filter (readsOut pS pS.main.body) } pS.main.body = true:=by kernel_rfl!
theorem sk5:(namesMeet pS pS.main.body fun _ n=>attrL n) = true:=by kernel_rfl!
theorem sk6:looksOpen rS.row.prog = true:=look_both (look_both (look_both (look_both sk1 sk2) sk3) sk4) sk5
theorem sk7:rS.row.wellSaid = true:=by
  unfold OpenRow.wellSaid OpenRow.partSaid
  rw [sk6]
  kernel_rfl!
theorem ok0:(chainsOk qv && opensWell rS.row.prog && (frees rS.row.toRowW && rS.row.within.isEmpty)) = true:=by kernel_rfl!
theorem said0:rS.wellSaid = true:=by
  unfold OpenLaw.wellSaid
  rw [sk7]
  kernel_rfl!
end Mine
namespace Mine
theorem ints_reps {vs:List Value} {l:List Int} (h:IntsAre vs l):Reps none (l.map Atom.int) vs:=by
  induction h with
  | nil=>exact .nil
  | cons n t _ ih=>exact .cons ⟨t,rfl⟩ ih
theorem law_top {w:World} {s₁:Shared} (fx:Fixed w s₁.heap) (lb:Labs s₁.heap) {vs:List Value} {l:List Int} {a L fa:Addr} {h₁:Heap} {m:Str→Option Value} {tk:Nat} {name:Str} {scope:Scope} {cd:Value} {Q:Flow→Shared→Prop} {E:Value→Shared→Prop}
    {l₁ l₂:List Stmt} {p1 p2 p3 p4:Pos} (hI:IntsAre vs l) (hL:s₁.heap.IsList a vs.toArray) (hg:s₁.gens = #[]) (F:Fr s₁.heap L h₁ m) (law:LawGives l) (hm:m (.ofString "script") = some (.ref a)) (hLn:s₁.heap.get? L = none) (hkd:scope.kind = .function)
    (k1:scope.names.lookup (.ofString "script") = some .local) (k4:scope.names.lookup (.ofString "stemmer") = some .local) (k5:isGl ⟨lawNames,scope.names⟩ (sName "DutchPorterStemmer") = true)
    (h1:toB ⟨lawNames,scope.names⟩ l₁ = c_law1) (h2:toB ⟨lawNames,scope.names⟩ l₂ = c_law2)
    (q:∀ s',s₁.heap.StaysIn s'.heap→s'.gens = #[]→s'.os = s₁.os→Q (.ret (.bool true)) s') :
    wpAny (model pw w) (callerA.deeper (envOf name scope L fa cd)) (execs (l₁ ++ .Assign [.Name (.ofString "stemmer") p1] (.Call (.Name (.ofString "DutchPorterStemmer") p2) [] [] p3) p4 :: l₂) (envOf name scope L fa cd)) Q E { s₁ with heap:=h₁,toks:=tk }:=by
  obtain ⟨oL,es,ep,hoL,hdL,_⟩:=id F.ns
  have hnew:s₁.heap.get? L = none:=hLn
  refine law_walk (B:=s₁.heap) (os:=s₁.os) (fr:=[envOf name scope L fa cd]) (c:=⟨lawNames,scope.names⟩) fx lb rfl rfl h1 h2 k4 k5 ?_ ⟨⟨[],rfl⟩,rfl⟩ ?_ law q
  · exact { stack:=rfl,handled:=rfl,depth:=by show callerA.depth+1+42+10 ≤ recursionLimit;decide +kernel,units:=by show callerA.units+3+4 * 42+200 ≤ cLine;decide +kernel,kind:=hkd,globals:=rfl,builtins:=rfl,nodup:=by show lawNames.Nodup;decide +kernel,newL:=hnew }
  · exact {
      stays:=F.keep
      frs:=⟨by show scope.kind ≠ _;rw [hkd];decide,⟨L,oL,rfl,hnew,hoL,fun vs q=>by rw [hdL] at q;cases q⟩,trivial⟩
      inst:=fun x dx e=>by cases e
      loc:=⟨_,F.ns⟩
      vars:=fun i v e=>by
        match i with
        | 0=>
          have:v = .list (l.map Atom.int):=by
            have:=Option.some.inj (Option.some.inj e);exact this.symm
          subst this
          obtain ⟨o,ho,hc,n,hd⟩:=hL
          exact ⟨_,.ref a,rfl,.inl ⟨k1,m,F.ns,hm⟩,a,vs.toArray,rfl,(fun q=>by cases q),⟨o,F.keep _ _ ho,hc,n,hd⟩,by simpa using ints_reps hI⟩
        | 1=>cases Option.some.inj e
        | 2=>cases Option.some.inj e
        | 3=>cases Option.some.inj e
        | 4=>cases Option.some.inj e
        | n+5=>cases e
      dr:=fun i v e=>by
        match i with
        | 0=>
          have:v = .list (l.map Atom.int):=by
            have:=Option.some.inj (Option.some.inj e);exact this.symm
          subst this;rfl
        | 1=>cases Option.some.inj e
        | 2=>cases Option.some.inj e
        | 3=>cases Option.some.inj e
        | 4=>cases Option.some.inj e
        | n+5=>cases e
      len:=rfl
      ld:=fun h=>by cases h
      gown:=fun a e=>by cases e
      gens:=hg
      os:=rfl }
set_option maxHeartbeats 8000000 in
theorem row0:rS.row.Holds:=by
  w_on
  refine holds_open (q:=qv) (loose:=looseV) (Xt:=Xt0) (XP:=XL qv []) (Yf:=fun s=>s.heap) (Ya:=fun w=>Hfin w.params) (YP:=YP0) (N:=20000) left0 ?hY ?hYk (fun s e=>xl_of s (Bool.and_eq_true_iff.mp e).1) XL.keeps (by rfl) (by rfl) (by rfl) (fun s e=>recFacts_of (Bool.and_eq_true_iff.mp e).2) (by rfl) (row_said said0) ok0 ?hb ?hw ?call
  case hY=>exact fun w s e b o h=>by rw [e];exact h
  case hYk=>exact fun w h h' a k b o e=>k b o (a b o e)
  case hb=>exact ⟨rfl,rfl,rfl,rfl,rfl,by decide +kernel⟩
  case hw=>exact ⟨[.list []],by kernel_rfl!,by kernel_rfl!⟩
  case call=>
    intro w s₀ s₁ mg mb G Y fa o pm cd doc dV kV ho hd hcd hD hmg hg args vals as hpre hlay hrd hwl hlo
    k_behind G ho hd hcd hD hmg hpre hlay hrd hwl hlo cd
    rename Top _ _ _ _ _ _=>T
    rename Fr _ _ _ _=>F
    rename IntsAre _ _=>hI
    rename Heap.IsList _ _ _=>hL
    have fx:=fixed_of Y T.g T.b T.builtins T.nolimit
    have lb:=labs_of ((kk_in w.params).keeps Y) T.g
    refine law_top (l₁:=[_,_,_]) (l₂:=[_,_]) fx lb hI hL hg F (law_all _ ?_) rfl (get_size _) rfl (by kernel_rfl!) (by kernel_rfl!) (by kernel_rfl!) (by kernel_rfl!) (by kernel_rfl!) ?_
    · omega
    · intro s' h1 h2 h3
      show GoodW _ _ _ _ _ (.ok (.ret (.bool true))) s'
      refine ⟨.inl ⟨.bool true,.bool true,[],rfl,fun _=>rfl,.bool true,?_,fun _=>⟨.nil,by simp⟩⟩,h1,h3,h2⟩
      first | kernel_rfl! | kernel_rfl | rfl
end Mine
theorem PySem.Challenge.cw_ip0004_01_holds : PySem.Challenge.rw_ip0004_01.Holds := by
  rw [Mine.rw_is]
  exact ⟨Mine.said0,Mine.row0⟩
