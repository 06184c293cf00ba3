import PyProof.Rows.All
import Wide.All
import OpenK.AllK
import Wide.FinOn
import PySem.Challenge.RW_il0016_01
set_option Elab.async false
set_option compiler.extract_closed false
section
open PySem PySem.W PyProof.Rows
set_option maxRecDepth 100000
set_option maxHeartbeats 8000000
namespace Mine
noncomputable def bo0 (P : Params) : Obj := ((boot_heap P).get? 0).getD default
noncomputable def bo4 (P : Params) : Obj := ((boot_heap P).get? 4).getD default
/-- a hook that sees two objects of the start as well -/
noncomputable def wrapH (H : Hook) : Hook where
  α := H.α × Option Obj × Option Obj
  obs := fun s => (H.obs s, s.heap.get? 0, s.heap.get? 4)
  val := fun w => (H.val w, some (bo0 w.params), some (bo4 w.params))
  says := fun w h => H.says w h ∧ h.get? 0 = some (bo0 w.params) ∧ h.get? 4 = some (bo4 w.params)
  of := fun w s x => ⟨H.of w s (Prod.mk.inj x).1, (Prod.mk.inj (Prod.mk.inj x).2).1, (Prod.mk.inj (Prod.mk.inj x).2).2⟩
  keeps := fun w h h' x k => ⟨H.keeps w h h' x.1 k, k _ _ x.2.1, k _ _ x.2.2⟩

/-- the imports in one go, over a tree of objects -/
noncomputable def impEnd (ex : Thread → Option (List Value)) (st : SharedT → Thread → Option (SharedT × Thread)) : Nat → SharedT → Thread → Option SharedT
  | 0, _, _ => none
  | n + 1, s, t => match ex t with
    | some [] => some s
    | some (_ :: _) => none
    | none => match st s t with
      | some (s', t') => impEnd ex st n s' t'
      | none => none
theorem impEnd_of {tb : String → Option Builtin} {p : Program} {w : World} : ∀ {n : Nat} {s : SharedT} {t : Thread} {r : SharedT}, impEnd Thread.atExitBegin (stepT (denote tb) p w) n s t = some r → importEnds tb p w n s.abs t = some r.abs
  | 0, _, _, _, h => nomatch h
  | n + 1, s, t, r, h => by
    unfold impEnd at h
    unfold importEnds
    cases he : t.atExitBegin with
    | some x =>
      rw [he] at h
      cases x with
      | nil => cases h; rfl
      | cons => cases h
    | none =>
      rw [he] at h
      cases hs : stepT (denote tb) p w s t with
      | none => rw [hs] at h; cases h
      | some q => obtain ⟨s₂, t₂⟩ := q; rw [hs] at h; dsimp only; rw [stepT_spec hs]; exact impEnd_of h
/-- the text's own statements in one go -/
noncomputable def topEnd (ok : Nat → Option Value → Thread → Bool) (st : SharedT → Thread → Option (SharedT × Thread)) (n₀ : Nat) (ann : Option Value) : Nat → SharedT → Thread → Option SharedT
  | 0, _, _ => none
  | n + 1, s, t => match through t with
    | true => some s
    | false => match ok n₀ ann t with
      | false => none
      | true => match st s t with
        | some (s', t') => topEnd ok st n₀ ann n s' t'
        | none => none
theorem topEnd_of {tb : String → Option Builtin} {p : Program} {w : World} {n₀ : Nat} {ann : Option Value} : ∀ {n : Nat} {s : SharedT} {t : Thread} {r : SharedT}, topEnd stepOk (stepT (denote tb) p w) n₀ ann n s t = some r → topRun tb p w n₀ ann n s.abs t = some r.abs
  | 0, _, _, _, h => nomatch h
  | n + 1, s, t, r, h => by
    unfold topEnd at h
    unfold topRun
    cases ht : through t with
    | true => rw [ht] at h; cases h; rfl
    | false =>
      rw [ht] at h
      cases hk : stepOk n₀ ann t with
      | false => rw [hk] at h; cases h
      | true =>
        rw [hk] at h
        cases hs : stepT (denote tb) p w s t with
        | none => rw [hs] at h; cases h
        | some q => obtain ⟨s₂, t₂⟩ := q; rw [hs] at h; dsimp only; rw [stepT_spec hs]; exact topEnd_of h
/-- some of its steps -/
noncomputable def topSome (ok : Nat → Option Value → Thread → Bool) (st : SharedT → Thread → Option (SharedT × Thread)) (n₀ : Nat) (ann : Option Value) : Nat → SharedT → Thread → Option (SharedT × Thread)
  | 0, s, t => some (s, t)
  | n + 1, s, t => match through t with
    | true => none
    | false => match ok n₀ ann t with
      | false => none
      | true => match st s t with
        | some (s', t') => topSome ok st n₀ ann n s' t'
        | none => none
theorem topEnd_some {ok : Nat → Option Value → Thread → Bool} {st : SharedT → Thread → Option (SharedT × Thread)} {n₀ : Nat} {ann : Option Value} {N : Nat} : ∀ {n : Nat} {s : SharedT} {t : Thread} {r : SharedT},
    (topSome ok st n₀ ann n s t).bind (fun x => topEnd ok st n₀ ann N x.1 x.2) = some r → topEnd ok st n₀ ann (n + N) s t = some r
  | 0, s, t, r, h => by rw [Nat.zero_add]; exact h
  | n + 1, s, t, r, h => by
    rw [show n + 1 + N = n + N + 1 by omega]
    unfold topSome at h
    unfold topEnd
    cases ht : through t with
    | true => rw [ht] at h; cases h
    | false =>
      rw [ht] at h
      cases hk : ok n₀ ann t with
      | false => rw [hk] at h; cases h
      | true =>
        rw [hk] at h
        cases hs : st s t with
        | none => rw [hs] at h; cases h
        | some q => obtain ⟨s₂, t₂⟩ := q; rw [hs] at h; exact topEnd_some h
theorem topEnd_mono {ok : Nat → Option Value → Thread → Bool} {st : SharedT → Thread → Option (SharedT × Thread)} {n₀ : Nat} {ann : Option Value} (k : Nat) : ∀ {n : Nat} {s : SharedT} {t : Thread} {r : SharedT},
    topEnd ok st n₀ ann n s t = some r → topEnd ok st n₀ ann (n + k) s t = some r
  | 0, _, _, _, h => nomatch h
  | n + 1, s, t, r, h => by
    rw [show n + 1 + k = n + k + 1 by omega]
    unfold topEnd at h ⊢
    cases ht : through t with
    | true => rw [ht] at h; exact h
    | false =>
      rw [ht] at h
      cases hk : ok n₀ ann t with
      | false => rw [hk] at h; cases h
      | true =>
        rw [hk] at h
        cases hs : st s t with
        | none => rw [hs] at h; cases h
        | some q => obtain ⟨s₂, t₂⟩ := q; rw [hs] at h; exact topEnd_mono k h
/-- a heap laid out as a tree -/
noncomputable def grow : List Obj → SharedT → Option SharedT
  | [], s => some s
  | o :: r, s => match ((s.tree.ins s.n o).get s.n).isSome with
    | true => grow r ⟨s.tree.ins s.n o, s.n + 1, s.life, s.gens, s.drawn, s.toks, s.os⟩
    | false => none
theorem grow_of : ∀ {l : List Obj} {s r : SharedT}, grow l s = some r → r.abs = { s.abs with heap := ⟨(s.abs.heap.objs.toList ++ l).toArray, s.life⟩ }
  | [], s, r, h => by
    cases h
    obtain ⟨T, n, life, gens, drawn, toks, os⟩ := s
    simp [SharedT.abs, absHeap]
  | o :: l, s, r, h => by
    unfold grow at h
    cases hs : ((s.tree.ins s.n o).get s.n).isSome with
    | false => rw [hs] at h; cases h
    | true =>
      rw [hs] at h
      have e := grow_of h
      rw [e]
      have z := absHeap_ins (life := s.life) hs
      simp only [SharedT.abs, z, Heap.push, Array.toList_push, List.append_assoc, List.cons_append, List.nil_append]
noncomputable def toT (s : Shared) : Option SharedT := grow s.heap.objs.toList ⟨.nil, 0, s.heap.life, s.gens, s.drawn, s.toks, s.os⟩
theorem toT_of {s : Shared} {r : SharedT} (h : toT s = some r) : r.abs = s := by
  rw [grow_of h]
  obtain ⟨⟨objs, life⟩, gens, drawn, toks, os⟩ := s
  simp [SharedT.abs, absHeap, BT.list]
noncomputable def s00 (s : Shared) : SharedT := ⟨.nil, 0, s.heap.life, s.gens, s.drawn, s.toks, s.os⟩
section
variable {α β : Type}
/-- a value's head is brought to light before it is handed on -/
noncomputable def forceV (v : Value) (k : Value → β) : β := match v with
  | .ref a => k (.ref a)
  | .str s t => k (.str s t)
  | .int i t => k (.int i t)
  | .bool b => k (.bool b)
  | .builtin i => k (.builtin i)
  | .type i => k (.type i)
  | x => k x
theorem forceV_eq (v : Value) (k : Value → β) : forceV v k = k v := by cases v <;> rfl
noncomputable def forceE (e : DictEntry) (k : DictEntry → β) : β := match e with
  | ⟨h, a, v⟩ => forceV a fun a' => forceV v fun v' => k ⟨h, a', v'⟩
theorem forceE_eq (e : DictEntry) (k : DictEntry → β) : forceE e k = k e := by cases e; simp only [forceE, forceV_eq]
noncomputable def forceL (fx : α → (α → β) → β) : List α → (List α → β) → β
  | [], k => k []
  | x :: r, k => fx x fun x' => forceL fx r fun r' => k (x' :: r')
theorem forceL_eq {fx : α → (α → β) → β} (h : ∀ x k, fx x k = k x) : ∀ (l : List α) (k : List α → β), forceL fx l k = k l
  | [], _ => rfl
  | x :: r, k => by unfold forceL; rw [h, forceL_eq h r]
noncomputable def forceO (o : Obj) (k : Obj → β) : β := match o with
  | ⟨c, d, data, sl⟩ => forceV c fun c' => match d with
    | some a => forceD data fun data' => k ⟨c', some a, data', sl⟩
    | none => forceD data fun data' => k ⟨c', none, data', sl⟩
where forceD (data : Data) (k : Data → β) : β := match data with
  | .seq xs n => forceL forceV xs.toList fun l => k (.seq ⟨l⟩ n)
  | .dict es n => forceL forceE es.toList fun l => k (.dict ⟨l⟩ n)
  | .fields vs => forceL forceV vs.toList fun l => k (.fields ⟨l⟩)
  | .func f => k (.func f)
  | .cls c => k (.cls c)
  | x => k x
theorem forceD_eq (data : Data) (k : Data → β) : forceO.forceD data k = k data := by
  cases data <;> simp only [forceO.forceD, forceL_eq forceV_eq, forceL_eq forceE_eq, Array.toArray_toList]
theorem forceO_eq (o : Obj) (k : Obj → β) : forceO o k = k o := by
  obtain ⟨c, d, data, sl⟩ := o
  cases d <;> simp only [forceO, forceV_eq, forceD_eq]
noncomputable def forceT : BT → (BT → β) → β
  | .nil, k => k .nil
  | .node v l r, k => forceO v fun v' => forceT l fun l' => forceT r fun r' => k (.node v' l' r')
theorem forceT_eq : ∀ (t : BT) (k : BT → β), forceT t k = k t
  | .nil, _ => rfl
  | .node v l r, k => by unfold forceT; rw [forceO_eq, forceT_eq l, forceT_eq r]
noncomputable def forceS (n₁ : Nat) (s : SharedT) (k : SharedT → Option β) : Option β := match s with
  | ⟨T, n, life, gens, drawn, toks, os⟩ => match Nat.beq n n₁ with
    | true => forceT T fun T' => k ⟨T', n₁, life, gens, drawn, toks, os⟩
    | false => none
theorem forceS_eq {n₁ : Nat} {s : SharedT} {k : SharedT → Option β} {b : β} (h : forceS n₁ s k = some b) : k s = some b := by
  obtain ⟨T, n, life, gens, drawn, toks, os⟩ := s
  unfold forceS at h
  dsimp only at h
  split at h
  · rename_i e; rw [forceT_eq] at h; rw [Nat.eq_of_beq_eq_true e]; exact h
  · cases h
end
/-- the text's opening, fenced, as a tree -/
noncomputable def pre (ex : Thread → Option (List Value)) (st : SharedT → Thread → Option (SharedT × Thread)) (fence : Shared → Option Shared) (start : Shared × Thread) (N m₀ a₀ : Nat) : Option (Shared × SharedT) :=
  (impEnd ex st N (s00 start.1) start.2).bind fun s => (fence s.abs).bind fun s' => (toT s').bind fun s0 =>
    match s'.heap.isNs mainGlobals && s'.gens.size == 0 && Nat.beq s'.heap.objs.size m₀ with
    | false => none
    | true => match s'.heap.nsMap mainGlobals "__annotations__" with
      | some (.ref a) => match Nat.beq a a₀ with
        | false => none
        | true => some (s', s0)
      | _ => none
/-- a row's two answers -/
noncomputable abbrev wf (b1 b2 : Bool) (w : World) : World := (w.withFollow "comprehension-iter-twice" b1).withFollow "special-get-raises" b2
/-- the steps up to the rows' question, and those that answer it -/
noncomputable def mid (ok : Nat → Option Value → Thread → Bool) (st : World → SharedT → Thread → Option (SharedT × Thread)) (p : Program) (m₀ a₀ : Nat) (k : Nat) (w w' : World) (s0 : SharedT) : Option (SharedT × Thread) :=
  (topSome ok (st w) m₀ (some (.ref a₀)) 570 s0 (topStub p)).bind fun x => topSome ok (st w') m₀ (some (.ref a₀)) k x.1 x.2
noncomputable def fin {β : Type} (ok : Nat → Option Value → Thread → Bool) (st : World → SharedT → Thread → Option (SharedT × Thread)) (p : Program) (mods : List Str) (N m₀ a₀ m₁ : Nat) (w w' : World) (look : SharedT → β) (q : Shared × SharedT) : Option β :=
  (mid ok st p m₀ a₀ 1236 w w' q.2).bind fun x => (topEnd ok (st w) m₀ (some (.ref a₀)) N x.1 x.2).bind fun r => forceS m₁ r fun r =>
    match staticsOk mods q.1.heap r.abs.heap && namesBound p r.abs.heap && gensDone r.abs && laidKept q.1.heap r.abs.heap with
    | true => some (look r)
    | false => none
noncomputable abbrev PR : Program := PySem.Challenge.rw_il0016_01.row.prog
theorem fin_of {p : Program} {w : World} {N m₀ a₀ m₁ : Nat} {β : Type} {look : SharedT → β} {r : β} (h0 : (start (opening p)).1.heap.objs = #[])
    (h : (pre Thread.atExitBegin (stepT (denote treeTable) (opening p) w) (fenceModules? p) (start (opening p)) N m₀ a₀).bind (fin stepOk (stepT (denote treeTable) p) p (importedModules p.main.body) 1789 m₀ a₀ m₁ w (wf true true w) look) = some r)
    (e1 : ∀ b, (pre Thread.atExitBegin (stepT (denote treeTable) (opening p) w) (fenceModules? p) (start (opening p)) N m₀ a₀).bind (fun q => mid stepOk (stepT (denote treeTable) p) p m₀ a₀ 1236 w (wf true b w) q.2) =
      (pre Thread.atExitBegin (stepT (denote treeTable) (opening p) w) (fenceModules? p) (start (opening p)) N m₀ a₀).bind (fun q => mid stepOk (stepT (denote treeTable) p) p m₀ a₀ 1236 w (wf true true w) q.2))
    (e2 : ∀ b, (pre Thread.atExitBegin (stepT (denote treeTable) (opening p) w) (fenceModules? p) (start (opening p)) N m₀ a₀).bind (fun q => mid stepOk (stepT (denote treeTable) p) p m₀ a₀ 1246 w (wf false b w) q.2) =
      (pre Thread.atExitBegin (stepT (denote treeTable) (opening p) w) (fenceModules? p) (start (opening p)) N m₀ a₀).bind (fun q => mid stepOk (stepT (denote treeTable) p) p m₀ a₀ 1236 w (wf true true w) q.2))
    (hN : 570 + (1246 + 1789) = N) :
    ∃ s : SharedT, openEnds treeTable p w N = some s.abs ∧ look s = r := by
  obtain ⟨⟨s', s0⟩, hp, h⟩ := Option.bind_eq_some_iff.mp h
  rw [hp] at e1 e2
  simp only [Option.bind_some] at e1 e2
  unfold pre at hp
  obtain ⟨s, h1, hp1⟩ := Option.bind_eq_some_iff.mp hp
  clear hp
  obtain ⟨s'', h2, hp2⟩ := Option.bind_eq_some_iff.mp hp1
  clear hp1
  obtain ⟨s0', h3, hp⟩ := Option.bind_eq_some_iff.mp hp2
  clear hp2
  have e0 : (s00 (start (opening p)).1).abs = (start (opening p)).1 := by
    revert h0
    generalize (start (opening p)).1 = x
    obtain ⟨⟨objs, life⟩, gens, drawn, toks, os⟩ := x
    intro h0
    dsimp only at h0
    subst h0
    rfl
  have i1 := impEnd_of h1
  rw [e0] at i1
  split at hp
  · cases hp
  rename_i hc
  obtain ⟨c1, c2⟩ := Bool.and_eq_true_iff.mp hc
  split at hp
  rotate_left
  · cases hp
  rename_i a hn
  split at hp
  · cases hp
  rename_i ha
  obtain rfl := Nat.eq_of_beq_eq_true ha
  cases hp
  -- the run itself
  unfold fin at h
  obtain ⟨⟨s2, t2⟩, h4, h⟩ := Option.bind_eq_some_iff.mp h
  obtain ⟨r1, h5, h⟩ := Option.bind_eq_some_iff.mp h
  have h6 := forceS_eq h
  dsimp only at h6
  split at h6
  rotate_left
  · cases h6
  rename_i hz
  cases h6
  refine ⟨r1, ?_, rfl⟩
  have e : ∃ k, k ≤ 1246 ∧ (mid stepOk (stepT (denote treeTable) p) p m₀ a k w w s0) = some (s2, t2) := by
    have ew : wf (w.params.followText "comprehension-iter-twice") ((w.withFollow "comprehension-iter-twice" (w.params.followText "comprehension-iter-twice")).params.followText "special-get-raises") w = w := by
      unfold wf
      rw [World.withFollow_self, World.withFollow_self]
    cases hb : w.params.followText "comprehension-iter-twice" with
    | true =>
      refine ⟨1236, by omega, ?_⟩
      rw [hb] at ew
      have z := e1 ((w.withFollow "comprehension-iter-twice" true).params.followText "special-get-raises")
      rw [ew] at z
      exact z.trans h4
    | false =>
      refine ⟨1246, by omega, ?_⟩
      rw [hb] at ew
      have z := e2 ((w.withFollow "comprehension-iter-twice" false).params.followText "special-get-raises")
      rw [ew] at z
      exact z.trans h4
  obtain ⟨k, hk, e⟩ := e
  unfold mid at e
  obtain ⟨⟨s3, t3⟩, e3, e4⟩ := Option.bind_eq_some_iff.mp e
  have f1 : topEnd stepOk (stepT (denote treeTable) p w) m₀ (some (.ref a)) (k + 1789) s3 t3 = some r1 := topEnd_some (by rw [e4]; exact h5)
  have f2 : topEnd stepOk (stepT (denote treeTable) p w) m₀ (some (.ref a)) (570 + (k + 1789)) s0 (topStub p) = some r1 := topEnd_some (by rw [e3]; exact f1)
  have f3 := topEnd_mono (1246 - k) f2
  rw [show 570 + (k + 1789) + (1246 - k) = N by omega] at f3
  have t1 := topEnd_of f3
  rw [toT_of h3] at t1
  unfold openEnds fencedOpening
  rw [i1]
  show (fenceModules? p s.abs).bind _ = _
  rw [h2]
  show topFrom treeTable p w N s' = _
  unfold topFrom
  rw [c1]
  dsimp only
  rw [Nat.eq_of_beq_eq_true c2, hn, t1]
  show (match staticsOk (importedModules p.main.body) s'.heap r1.abs.heap && namesBound p r1.abs.heap && gensDone r1.abs && laidKept s'.heap r1.abs.heap with | true => some r1.abs | false => none) = _
  rw [hz]
noncomputable def preF (w : World) : Option (Shared × SharedT) := pre Fast.tw3805553451399329143 (Fast.tw10156331382660048174 (Fast.tw11892475500146522536 Fast.tw14364793385576792824) (opening PR) w) (Fast.tw14289696077712309145 PR) (Fast.tw1435165496053646825 (opening PR)) 3605 28 6
theorem preF_eq (w : World) : preF w = pre Thread.atExitBegin (stepT (denote treeTable) (opening PR) w) (fenceModules? PR) (start (opening PR)) 3605 28 6 := by
  unfold preF
  rw [Fast.te3805553451399329143, Fast.te10156331382660048174, Fast.te11892475500146522536, Fast.te14364793385576792824, Fast.te14289696077712309145, Fast.te1435165496053646825]
noncomputable def midF (k : Nat) (w w' : World) : Option (SharedT × Thread) := (preF w).bind fun q => mid Fast.tw6613529449190102663 (Fast.tw10156331382660048174 (Fast.tw11892475500146522536 Fast.tw14364793385576792824) PR) PR 28 6 k w w' q.2
theorem midF_eq (k : Nat) (w w' : World) : midF k w w' = (pre Thread.atExitBegin (stepT (denote treeTable) (opening PR) w) (fenceModules? PR) (start (opening PR)) 3605 28 6).bind fun q => mid stepOk (stepT (denote treeTable) PR) PR 28 6 k w w' q.2 := by
  unfold midF
  rw [preF_eq, Fast.te6613529449190102663, Fast.te10156331382660048174, Fast.te11892475500146522536, Fast.te14364793385576792824]
noncomputable def finF {β : Type} (w : World) (look : SharedT → β) : Option β := (preF w).bind (fin Fast.tw6613529449190102663 (Fast.tw10156331382660048174 (Fast.tw11892475500146522536 Fast.tw14364793385576792824) PR) PR (Fast.tw5923862056798008813 PR.main.body) 1789 28 6 173 w (wf true true w) look)
theorem finF_eq {β : Type} (w : World) (look : SharedT → β) : finF w look = (pre Thread.atExitBegin (stepT (denote treeTable) (opening PR) w) (fenceModules? PR) (start (opening PR)) 3605 28 6).bind (fin stepOk (stepT (denote treeTable) PR) PR (importedModules PR.main.body) 1789 28 6 173 w (wf true true w) look) := by
  unfold finF
  rw [preF_eq, Fast.te6613529449190102663, Fast.te10156331382660048174, Fast.te11892475500146522536, Fast.te14364793385576792824, Fast.te5923862056798008813]
theorem mids (w : World) : (midF 1236 w (wf true false w), midF 1246 w (wf false false w), midF 1246 w (wf false true w)) = (midF 1236 w (wf true true w), midF 1236 w (wf true true w), midF 1236 w (wf true true w)) := by kernel_rfl
theorem left_of {q : Program} {loose : List Str} {Xt : Shared → Bool} {α : Type} {Yf : Shared → α} {Ya : World → α}
    (h : ∀ w : World, finF w (fun r => (openSeen q loose (importedModules PR.main.body) Xt true r.abs, Yf r.abs)) = some (openGood q loose, Ya w)) : LeftO PR q loose Xt Yf Ya 3605 := fun w => by
  have z := mids w
  have z1 := (Prod.mk.inj z).1
  have z2 := (Prod.mk.inj (Prod.mk.inj z).2).1
  have z3 := (Prod.mk.inj (Prod.mk.inj z).2).2
  rw [midF_eq, midF_eq 1236 w (wf true true w)] at z1 z2 z3
  have hh := h w
  rw [finF_eq] at hh
  obtain ⟨s, h1, h2⟩ := fin_of (p := PR) (w := w) rfl hh (fun b => by cases b; exact z1; rfl) (fun b => by cases b; exact z2; exact z3) rfl
  rw [h1]
  exact congrArg some h2
theorem left_fast {q : Program} {loose : List Str} {Xt : Shared → Bool} {α : Type} {Yf : Shared → α} {Ya : World → α}
    (h : ∀ w : World, finF w (fun r => (Fast.tw4187177175401517315 q loose (Fast.tw5923862056798008813 PR.main.body) Xt true r.abs, Yf r.abs)) = some (openGood q loose, Ya w)) : LeftO PR q loose Xt Yf Ya 3605 := by
  refine left_of ?_
  rw [Fast.te4187177175401517315, Fast.te5923862056798008813]
  exact h
noncomputable def vw : Program := view PR [0, 2, 3, 6, 8, 9, 11, 12, 14, 16, 17, 18, 19, 20, 21, 22, 23, 24]
noncomputable abbrev ls : List Str := [Str.ofString "_initial_missing", Str.ofString "reduce", Str.ofString "filterfalse", Str.ofString "_twin_re_1", Str.ofString "_special_chars_map"]
noncomputable abbrev lv0 : List (Str × WData) := []
end Mine
local macro_rules | `(tactic| o_head $t) => `(tactic| (refine holds_open (q := Mine.vw) (loose := Mine.ls) (Xt := fun s => xlAt Mine.vw Mine.lv0 s && recOk (RowW.records (OpenRow.toRowW PySem.Challenge.rw_il0016_01.row)) s) (XP := XL Mine.vw Mine.lv0) (Yf := Hook.obs (Mine.wrapH $t)) (Ya := Hook.val (Mine.wrapH $t)) (YP := Hook.says (Mine.wrapH $t)) (N := 3605) ?hl (Hook.of (Mine.wrapH $t)) (Hook.keeps (Mine.wrapH $t)) (fun s e => xl_of s (Bool.and_eq_true_iff.mp e).1) XL.keeps (by rfl) (by rfl) (by rfl) (fun s e => recFacts_of (Bool.and_eq_true_iff.mp e).2) (by rfl) (by first | assumption | decide +kernel) (by decide +kernel) ⟨rfl, rfl, rfl, rfl, rfl, by decide +kernel⟩ ?hw ?hc; (case hl => (refine Mine.left_fast ?_; intro w; kernel_rfl))))
local macro_rules | `(tactic| o_law) => `(tactic| (refine holds_law (l := PySem.Challenge.rw_il0016_01) (by kernel_rfl) (fun said => ?_)))
namespace Mine
open_top hd for PySem.Challenge.rw_il0016_01
end Mine
end
section
open PySem PySem.W PySem.Spec PySem.Calls PyProof.Rows
set_option maxRecDepth 100000
set_option maxHeartbeats 4000000
namespace Mine
noncomputable abbrev mwObj (l : Addr) : Obj := { cls := .type "method-wrapper", data := .fields #[.builtin "list.__contains__", .ref l] }
noncomputable abbrev itObj (l : Addr) (i : Nat) : Obj := { cls := .type "list_iterator", data := .fields #[.ref l, .int i 0] }
noncomputable abbrev itDead (i : Nat) : Obj := { cls := .type "list_iterator", data := .fields #[.none, .int i 0] }
noncomputable abbrev ffObj (dx mw it : Addr) : Obj := { cls := .ref 80, dict := some dx, data := .plain, slots := #[some (.ref mw), some (.ref it)] }

section
variable {prog : Program} {w : World} {A : Around} {E : Value → Shared → Prop} {s : Shared} {h₀ : Heap} {L : Addr} {m : Str → Option Value} {news news' : List (Addr × Obj)}

theorem entry_next : entryFor table "next" = some Builtin.«next» := entryFor_of_fast (by kernel_rfl)
theorem args_next (a : Value) : argsOk "next" ⟨[a], []⟩ := by unfold argsOk; kernel_rfl

/-- an object of the ledger turned -/
theorem upd_turn {d : Addr} {o o' : Obj} {f : Obj → Obj} (F : Fr h₀ L s.heap m) (N : News h₀ L s.heap news) (U : Upd d o o' news news') (e : f o = o') (hf : o'.isFreed = false) :
    Fr h₀ L (s.heap.update d f) m ∧ News h₀ L (s.heap.update d f) news' := by
  obtain ⟨pre, post, rfl, rfl, a, b⟩ := U.split
  exact news_upd F N a b e hf

theorem upd_mem {d : Addr} {o o' : Obj} (U : Upd d o o' news news') : (d, o) ∈ news := by
  obtain ⟨pre, post, rfl, rfl, a, b⟩ := U.split
  exact List.mem_append_right _ (.head _)

theorem next_item {it l n : Nat} {i : Nat} {items : List Value} {x : Value} {Q : Value → Shared → Prop} (F : Fr h₀ L s.heap m) (N : News h₀ L s.heap news) (U : Upd it (itObj l i) (itObj l (i + 1)) news news')
    (hl : (l, listOf items.toArray n) ∈ news) (hx : items[i]? = some x)
    (hQ : ∀ h', Fr h₀ L h' m → News h₀ L h' news' → Q x { s with heap := h' }) :
    wpAny (model prog w) A (call (.builtin "next") [.ref it]) Q E s := by
  have hit := (N _ (upd_mem U)).1
  have hl' := (N _ hl).1
  have hT : s.TypeIs (.ref it) "list_iterator" := ⟨_, hit, rfl⟩
  refine call_function_entry (by decide +kernel) (by decide +kernel) entry_next (args_next _) ?_
  unfold Builtin.«next»
  refine wpAny_bind (m := someArgs "next" 1 2 _) (wpAny_of_eq (a := [Value.ref it]) (by first | rfl | kernel_rfl!) ?_)
  dsimp only
  refine wpAny_bind (wpAny_specialOf (name := Str.ofString "__next__") hT slot_listiter_next.lookup ?_)
  refine wpAny_ite_split (fun hab => absurd hab (by decide)) (fun _ => ?_)
  refine wpAny_bind (wpAny_callSpecial?_slot (name := Str.ofString "__next__") hT slot_listiter_next
    (wpAny_call_entry slot_listiter_next hT entry_listiter_next ?_ (args_listiter_next _)))
  show wpAny _ _ (field (.ref it) 0 >>= _) _ _ s
  refine wpAny_bind (wpAny_field hit rfl (x := .ref l) rfl ?_)
  show wpAny _ _ (if (Value.ref l == Value.none) = true then _ else _) _ _ s
  rw [if_neg (show ¬ ((Value.ref l == Value.none) = true) from Bool.false_ne_true)]
  show wpAny _ _ (field (.ref it) 1 >>= _) _ _ s
  refine wpAny_bind (wpAny_field hit rfl (x := .int i 0) rfl ?_)
  show wpAny _ _ (seqItems? (.ref l) >>= _) _ _ s
  refine wpAny_bind (wpAny_seqItems hl' rfl ?_)
  have hx' : items.toArray[i]? = some x := by simpa using hx
  simp only [Int.toNat_natCast, hx']
  obtain ⟨F', N'⟩ := upd_turn (f := Obj.mapFields (·.setIfInBounds 1 (rawInt ((i : Int) + 1)))) F N U (by simp [Obj.mapFields, rawInt]) rfl
  exact wpAny_bind (wpAny_setField hit rfl (by simp) (wpAny_pure ⟨x, rfl, wpAny_pure ⟨_, rfl, hQ _ F' N'⟩⟩))

theorem next_end {it l n : Nat} {i : Nat} {items : List Value} {Q : Value → Shared → Prop} (hh : A.handled = none) (F : Fr h₀ L s.heap m) (N : News h₀ L s.heap news) (U : Upd it (itObj l i) (itDead i) news news')
    (hl : (l, listOf items.toArray n) ∈ news) (hx : items[i]? = none)
    (hE : ∀ h₁ h' e, Fr h₀ L h₁ m → News h₀ L h₁ news' → Heap.MadeExc h₁ h' e "StopIteration" [] → E (.ref e) { s with heap := h' }) :
    wpAny (model prog w) A (call (.builtin "next") [.ref it]) Q E s := by
  have hit := (N _ (upd_mem U)).1
  have hl' := (N _ hl).1
  have hT : s.TypeIs (.ref it) "list_iterator" := ⟨_, hit, rfl⟩
  refine call_function_entry (by decide +kernel) (by decide +kernel) entry_next (args_next _) ?_
  unfold Builtin.«next»
  refine wpAny_bind (m := someArgs "next" 1 2 _) (wpAny_of_eq (a := [Value.ref it]) (by first | rfl | kernel_rfl!) ?_)
  dsimp only
  refine wpAny_bind (wpAny_specialOf (name := Str.ofString "__next__") hT slot_listiter_next.lookup ?_)
  refine wpAny_ite_split (fun hab => absurd hab (by decide)) (fun _ => ?_)
  refine wpAny_bind (wpAny_callSpecial?_slot (name := Str.ofString "__next__") hT slot_listiter_next
    (wpAny_call_entry slot_listiter_next hT entry_listiter_next ?_ (args_listiter_next _)))
  show wpAny _ _ (field (.ref it) 0 >>= _) _ _ s
  refine wpAny_bind (wpAny_field hit rfl (x := .ref l) rfl ?_)
  show wpAny _ _ (if (Value.ref l == Value.none) = true then _ else _) _ _ s
  rw [if_neg (show ¬ ((Value.ref l == Value.none) = true) from Bool.false_ne_true)]
  show wpAny _ _ (field (.ref it) 1 >>= _) _ _ s
  refine wpAny_bind (wpAny_field hit rfl (x := .int i 0) rfl ?_)
  show wpAny _ _ (seqItems? (.ref l) >>= _) _ _ s
  refine wpAny_bind (wpAny_seqItems hl' rfl ?_)
  have hx' : items.toArray[i]? = none := by simpa using hx
  simp only [Int.toNat_natCast, hx']
  obtain ⟨F', N'⟩ := upd_turn (f := Obj.mapFields (·.setIfInBounds 0 Value.none)) F N U (by simp [Obj.mapFields]) rfl
  refine wpAny_bind (wpAny_rule (wpAny_bind (wpAny_setField hit rfl (by simp) ?_)))
  show wpAny _ _ (newExc (.type "StopIteration") [] >>= _) _ _ _
  refine wpAny_bind ?_
  simp only [newExc, newTuple]
  refine wpAny_bind (wpAny_newObj_type ?_ (by size_fits))
  refine wpAny_bind (m := firstArgMember _ _) (wpAny_of_eq (a := Value.none) (by first | rfl | (simp only [firstArgMember]; rfl)) ?_)
  refine wpAny_newObj_type ?_ (by size_fits)
  simp only [raiseNew]
  refine wpAny_bind (wpAny_handled ?_)
  first | rw [show A.in1.in1.handled = none from hh] | rw [hh]
  refine wpAny_bind (wpAny_pure (wpAny_throw ?_))
  refine hE _ _ _ F' N' ⟨fun b o hb => Heap.get?_push_of_some _ (Heap.get?_push_of_some _ hb), Heap.get?_none_of_le (by rw [Heap.size_push]; exact Nat.le_succ _), _, Heap.get?_push_size _ rfl, Heap.get?_none_of_le (Nat.le_refl _), Heap.get?_push_of_some _ (Heap.get?_push_size _ rfl)⟩

theorem check_contains (l : Addr) (x : Value) : checkBoundCall "list.__contains__" ⟨[.ref l, x], []⟩ = pure () := by kernel_rfl

theorem mw_call {mw l2 n : Nat} {items : List Value} {x : Value} {e : Value → Bool} {Q : Value → Shared → Prop} (N : News h₀ L s.heap news) (hm : (mw, mwObj l2) ∈ news) (hl : (l2, listOf items.toArray n) ∈ news)
    (he : ∀ y ∈ items, MeetsSeq.EqGives y x (e y)) (h : Q (.bool (items.any e)) s) : wpAny (model prog w) A (call (.ref mw) [x]) Q E s := by
  have hmw := (N _ hm).1
  have hl' := (N _ hl).1
  refine wpAny_call (codeAny_of_tree ?_)
  show wpAny _ _ (callAny (.ref mw) ⟨[x], []⟩) _ _ _
  simp only [callAny]
  refine wpAny_bind (wpAny_load hmw ?_)
  simp only [show (Value.type "method-wrapper" == Value.type "method" || Value.type "method-wrapper" == Value.type "builtin_function_or_method" || Value.type "method-wrapper" == Value.type "method-wrapper") = true by decide, if_true]
  show wpAny _ _ (if (Value.type "method-wrapper" != Value.type "method") = true then _ else _) _ _ _
  rw [if_pos (by decide)]
  refine wpAny_bind (wpAny_of_eq (a := ()) (check_contains l2 x) ?_)
  refine wpAny_bind (wpAny_pure (wpAny_pure ?_))
  refine ⟨plainId_quiet (by decide +kernel) _, codeAny_builtin F.entry_list_contains ?_⟩
  rw [Around.under_plainId (by decide +kernel) _]
  refine wpAny_mono (SeqInW.list_containsW l2 items.toArray n none #[] x e (fun y hy => he y (by simpa using hy)) prog w A (wants Q E) s ⟨hl', ?_⟩) (fun fin s' h' => h') fun _ _ h' => h'
  show Q _ s
  simpa using h

theorem callWith_mw {pos : Pos} {mw l2 : Addr} {first : List Value} {env : Env} {e : PySem.Expr} {rest : List PySem.Expr} {Q : Value → Shared → Prop} (_N : News h₀ L s.heap news) (_hm : (mw, mwObj l2) ∈ news)
    (h : wpAny (model prog w) A (spliced (backTo pos (starEach (e :: rest) env))) (fun vs s₁ => s₁.heap.get? mw = some (mwObj l2) ∧ wpAny (model prog w) A (call (.ref mw) (first ++ vs)) Q E s₁) E s)
    (he : starEach (e :: rest) env = (false, eval e env) :: starEach rest env := by rfl) (hplain : (backTo pos (starEach rest env)).any (·.1) = false := by rfl) :
    wpAny (model prog w) A (callWith pos (.ref mw) first (backTo pos (starEach (e :: rest) env)) []) Q E s := by
  rw [he] at h ⊢
  refine callWith_of (P := fun hp => hp.get? mw = some (mwObj l2)) (by show ((false || (backTo pos (starEach rest env)).any (·.1)) || false) = false; rw [hplain]; rfl) (fun hp ho => ⟨.machine, .inr (.inl rfl), ?_⟩) (evalArgs_plain h)
  refine (Looks.ld (part := none) ho).andThen ?_
  exact Looks.of_pure (by first | rfl | kernel_rfl)
end
end Mine
namespace Mine
noncomputable def Stp (P : Prop) : Prop := P
theorem Stp.of {P : Prop} (h : Stp P) : P := h
theorem Stp.to {P : Prop} (h : P) : Stp P := h
theorem fr3 {h₀ h : Heap} {L : Addr} {m : Str → Option Value} {a b c : Str} {v2 v3 : Option Value} (F : Fr h₀ L h m) (h2 : m b = v2) (h3 : m c = v3) :
    ∃ (u : Option Value) (m₀ : Str → Option Value), Fr h₀ L h (fun y => if y = a then u else if y = b then v2 else if y = c then v3 else m₀ y) := by
  refine ⟨m a, m, ?_⟩
  have e : (fun y => if y = a then m a else if y = b then v2 else if y = c then v3 else m y) = m := by
    funext y
    by_cases h1 : y = a
    · simp [h1]
    · simp only [if_neg h1]
      by_cases q2 : y = b
      · subst q2; simp [h2]
      · simp only [if_neg q2]
        by_cases q3 : y = c
        · subst q3; simp [h3]
        · simp [q3]
  rw [e]; exact F
noncomputable def eqS (b : Str) : Value → Bool
  | .str a _ => a.cps.toList == b.cps.toList
  | _ => false
theorem eqS_gives {vs : List Value} {xs : List Str} (h : StrsAre vs xs) (b : Str) (u : Tok) : ∀ y ∈ vs, MeetsSeq.EqGives y (.str b u) (eqS b y) := by
  intro y hy
  obtain ⟨a, t, rfl⟩ := h.all y hy
  exact SeqRoads2.EqGives.str a b t u
theorem str_beq (a b : Str) : (a.cps.toList == b.cps.toList) = decide (a = b) := by
  cases a with | mk ca => cases b with | mk cb =>
    by_cases h : ca = cb
    · subst h; simp
    · have : ca.toList ≠ cb.toList := fun e => h (Array.toList_inj.mp e)
      simp [h, this]
theorem eqS_any {vs : List Value} {xs : List Str} (h : StrsAre vs xs) (b : Str) : vs.any (eqS b) = decide (b ∈ xs) := by
  induction h with
  | nil => rfl
  | cons y t h ih =>
    rw [List.any_cons, ih]
    simp only [eqS, str_beq, List.mem_cons]
    by_cases q : y = b
    · subst q; simp
    · have q' : ¬ b = y := fun e => q e.symm
      simp [q, q']
theorem mw_strs {prog : Program} {w : World} {A : Around} {E : Value → Shared → Prop} {s : Shared} {h₀ : Heap} {L : Addr} {news : List (Addr × Obj)} {mw l2 n : Nat} {vs : List Value} {xs : List Str} {b : Str} {u : Tok} {Q : Value → Shared → Prop} (N : News h₀ L s.heap news) (hm : (mw, mwObj l2) ∈ news) (hl : (l2, listOf vs.toArray n) ∈ news)
    (hS : StrsAre vs xs) (h : Q (.bool (decide (b ∈ xs))) s) : wpAny (model prog w) A (call (.ref mw) [.str b u]) Q E s :=
  mw_call (e := eqS b) N hm hl (eqS_gives hS b u) (by rw [eqS_any hS]; exact h)
theorem fr_over {h₀ h : Heap} {L : Addr} {a : Str} {u u' : Option Value} {R : Str → Option Value} (F : Fr h₀ L h (fun y => if y = a then u else if y = a then u' else R y)) : Fr h₀ L h (fun y => if y = a then u else R y) := by
  have e : (fun y => if y = a then u else if y = a then u' else R y) = fun y => if y = a then u else R y := by
    funext y
    by_cases h1 : y = a
    · simp [h1]
    · simp [h1]
  rw [e] at F; exact F
theorem whl_any {prog : Program} {w : World} {A : Around} {E : Value → Shared → Prop} {s : Shared} {env : Env} {test : PySem.Expr} {body orelse : List Stmt} {Q : Flow → Shared → Prop} (k k' : Nat) (h : Stp (WhlRest prog w A E env test body orelse Q k s)) : Stp (WhlRest prog w A E env test body orelse Q k' s) := h
section
variable {M : Model} {A : Around} {E : Value → Shared → Prop} {s : Shared}
theorem at_c (f : Addr) {vs : List Value} {Q : Value → Shared → Prop} (h : wpAny M A (call (.ref f) vs) Q E s) : wpAny M A (call (.ref f) vs) Q E s := h
theorem at_c1 {f : Addr} {v : Value} {Q : Value → Shared → Prop} (h : wpAny M A (call (.ref f) [v]) Q E s) : wpAny M A (call (.ref f) [v]) Q E s := h
theorem at_b (n : String) {a : Addr} {Q : Value → Shared → Prop} (h : wpAny M A (call (.builtin n) [.ref a]) Q E s) : wpAny M A (call (.builtin n) [.ref a]) Q E s := h
theorem at_f4 {u v : Value} {i j : Int} {a b : Tok} {Q : Value → Shared → Prop} (h : wpAny M A (call (.builtin "str.find") [u, v, .int i a, .int j b]) Q E s) : wpAny M A (call (.builtin "str.find") [u, v, .int i a, .int j b]) Q E s := h
theorem at_ga (n : String) {a : Addr} {b : Bool} {Q : Value → Shared → Prop} (h : wpAny M A (getAttr (.ref a) (Str.ofString n) b) Q E s) : wpAny M A (getAttr (.ref a) (Str.ofString n) b) Q E s := h
theorem at_gm (n : String) {a : Addr} {b : Sem Bool} {Q : Value × List Value → Shared → Prop} (h : wpAny M A (getMethod (.ref a) (Str.ofString n) b) Q E s) : wpAny M A (getMethod (.ref a) (Str.ofString n) b) Q E s := h
theorem at_gs (n : String) {a : Str} {t : Tok} {b : Sem Bool} {Q : Value × List Value → Shared → Prop} (h : wpAny M A (getMethod (.str a t) (Str.ofString n) b) Q E s) : wpAny M A (getMethod (.str a t) (Str.ofString n) b) Q E s := h
theorem at_st {e₁ e₂ : PySem.Expr} {a : Addr} {i : Int} {t : Tok} {Q : Value → Shared → Prop} (h : wpAny M A (subscriptTail e₁ e₂ (.ref a) (.int i t)) Q E s) : wpAny M A (subscriptTail e₁ e₂ (.ref a) (.int i t)) Q E s := h
theorem at_stn (i : Int) {e₁ e₂ : PySem.Expr} {a : Addr} {t : Tok} {Q : Value → Shared → Prop} (h : wpAny M A (subscriptTail e₁ e₂ (.ref a) (.int i t)) Q E s) : wpAny M A (subscriptTail e₁ e₂ (.ref a) (.int i t)) Q E s := h
theorem at_s2 {e₁ x y : PySem.Expr} {p : Pos} {u v : Value} {Q : Value → Shared → Prop} (h : wpAny M A (subscriptTail e₁ (.Slice (some x) (some y) none p) u v) Q E s) : wpAny M A (subscriptTail e₁ (.Slice (some x) (some y) none p) u v) Q E s := h
theorem at_cw {p : Pos} {a : Addr} {fs : List Value} {e : PySem.Expr} {r : List PySem.Expr} {env : Env} {Q : Value → Shared → Prop} (h : wpAny M A (callWith p (.ref a) fs (backTo p (starEach (e :: r) env)) []) Q E s) : wpAny M A (callWith p (.ref a) fs (backTo p (starEach (e :: r) env)) []) Q E s := h
end
theorem and_o {h₀ h : Heap} {L : Addr} {news : List (Addr × Obj)} {a : Addr} {o : Obj} {R : Prop} (N : News h₀ L h news) (m : (a, o) ∈ news) (r : R) : h.get? a = some o ∧ R := ⟨N.get m, r⟩
end Mine
end
section
open PySem PySem.W PySem.Spec PySem.Calls PyProof.Rows
set_option maxRecDepth 100000
set_option maxHeartbeats 4000000
namespace Mine
noncomputable abbrev frs (l : List Env) : List Addr := l.filterMap (·.frame)

structure Reb (fs : List Addr) (h h₂ : Heap) : Prop where
  size : h₂.objs.size = h.objs.size
  out : ∀ b, b ∉ fs → h₂.get? b = h.get? b
  fr : ∀ b, b ∈ fs → ∀ o, h.get? b = some o → ∃ sl, h₂.get? b = some { o with slots := sl }
  none : ∀ b, h.get? b = none → h₂.get? b = none

structure Mv (fs wr : List Addr) (h h' : Heap) : Prop where
  keep : ∀ b o, h.get? b = some o → b ∉ fs → b ∉ wr → h'.get? b = some o
  fr : ∀ b, b ∈ fs → b ∉ wr → ∀ o, h.get? b = some o → ∃ sl, h'.get? b = some { o with slots := sl }

theorem Reb.refl (fs : List Addr) (h : Heap) : Reb fs h h := ⟨rfl, fun _ _ => rfl, fun _ _ o e => ⟨o.slots, e⟩, fun _ e => e⟩
theorem Reb.trans {fs : List Addr} {h h₂ h₃ : Heap} (x : Reb fs h h₂) (y : Reb fs h₂ h₃) : Reb fs h h₃ :=
  ⟨y.size.trans x.size, fun b hb => (y.out b hb).trans (x.out b hb), fun b hb o e => by
    obtain ⟨sl, e2⟩ := x.fr b hb o e
    obtain ⟨sl', e3⟩ := y.fr b hb _ e2
    exact ⟨sl', e3⟩, fun b e => y.none b (x.none b e)⟩
theorem Reb.mv {fs : List Addr} {h h₂ : Heap} (x : Reb fs h h₂) : Mv fs [] h h₂ := ⟨fun b o e hb _ => (x.out b hb).trans e, fun b hb _ o e => x.fr b hb o e⟩

noncomputable def slotsAs (h' : Heap) (i : Nat) (o : Obj) : Obj := match h'.get? i with
  | some o' => { o with slots := o'.slots }
  | Option.none => o
noncomputable def rebH (fs : List Addr) (h h' : Heap) : Heap := ⟨h.objs.mapIdx fun i o => if i ∈ fs then slotsAs h' i o else o, h.life⟩
theorem slotsAs_data (h' : Heap) (i : Nat) (o : Obj) : ∃ sl, slotsAs h' i o = { o with slots := sl } := by
  unfold slotsAs
  split
  · exact ⟨_, rfl⟩
  · exact ⟨o.slots, rfl⟩
theorem get_of_obj {h : Heap} {b : Addr} {o : Obj} (e : h.objs[b]? = some o) (hf : o.isFreed = false) : h.get? b = some o := by
  unfold Heap.get?
  rw [e]
  obtain ⟨c, d, da, sl⟩ := o
  cases da <;> first | rfl | cases hf
theorem obj_of_get {h : Heap} {b : Addr} {o : Obj} (e : h.get? b = some o) : h.objs[b]? = some o ∧ o.isFreed = false := by
  unfold Heap.get? at e
  split at e
  · cases e
  · rename_i q
    refine ⟨e, ?_⟩
    obtain ⟨c, d, da, sl⟩ := o
    cases da <;> first | rfl | exact absurd e (q _ _ _)
theorem get_none_of {h : Heap} {b : Addr} (e : h.get? b = none) : h.objs[b]? = none ∨ ∃ o, h.objs[b]? = some o ∧ o.isFreed = true := by
  unfold Heap.get? at e
  split at e
  · rename_i c d sl q
    exact .inr ⟨_, q, rfl⟩
  · exact .inl e
theorem freed_slots {o : Obj} {sl : Array (Option Value)} : ({ o with slots := sl } : Obj).isFreed = o.isFreed := by
  obtain ⟨c, d, da, s⟩ := o
  cases da <;> rfl
theorem rebH_reb (fs : List Addr) (h h' : Heap) : Reb fs h (rebH fs h h') := by
  have get : ∀ b o, h.get? b = some o → (rebH fs h h').get? b = some (if b ∈ fs then slotsAs h' b o else o) := by
    intro b o e
    obtain ⟨e1, e2⟩ := obj_of_get e
    refine get_of_obj ?_ ?_
    · show (h.objs.mapIdx _)[b]? = _
      rw [Array.getElem?_mapIdx, e1]; rfl
    · split
      · obtain ⟨sl, q⟩ := slotsAs_data h' b o
        rw [q, freed_slots]; exact e2
      · exact e2
  have nn : ∀ b, h.get? b = none → (rebH fs h h').get? b = none := by
    intro b e
    have q : (rebH fs h h').objs[b]? = (h.objs[b]?).map fun o => if b ∈ fs then slotsAs h' b o else o := by
      show (h.objs.mapIdx _)[b]? = _
      rw [Array.getElem?_mapIdx]
    rcases get_none_of e with e1 | ⟨o, e1, e2⟩
    · unfold Heap.get?
      rw [q, e1]; rfl
    · rw [e1] at q
      have hf : (if b ∈ fs then slotsAs h' b o else o).isFreed = true := by
        split
        · obtain ⟨sl, z⟩ := slotsAs_data h' b o
          rw [z, freed_slots]; exact e2
        · exact e2
      cases z : (rebH fs h h').get? b with
      | none => rfl
      | some o' =>
        obtain ⟨z1, z2⟩ := obj_of_get z
        rw [q] at z1
        have w := Option.some.inj z1
        dsimp only at w
        rw [w, z2] at hf; cases hf
  refine ⟨by show (h.objs.mapIdx _).size = _; simp, fun b hb => ?_, fun b hb o e => ?_, nn⟩
  · cases e : h.get? b with
    | none => exact nn b e
    | some o => rw [get b o e, if_neg hb]
  · rw [get b o e, if_pos hb]
    obtain ⟨sl, q⟩ := slotsAs_data h' b o
    exact ⟨sl, by rw [q]⟩
theorem rebH_get {fs : List Addr} {h h' : Heap} {b : Addr} {o o' : Obj} {sl : Array (Option Value)} (hb : b ∈ fs) (e : h.get? b = some o) (e' : h'.get? b = some { o with slots := sl }) : (rebH fs h h').get? b = some { o with slots := sl } := by
  obtain ⟨e1, e2⟩ := obj_of_get e
  refine get_of_obj ?_ (by rw [freed_slots]; exact e2)
  show (h.objs.mapIdx _)[b]? = _
  rw [Array.getElem?_mapIdx, e1]
  show some (if b ∈ fs then slotsAs h' b o else o) = _
  rw [if_pos hb]
  unfold slotsAs
  rw [e']

section
variable {h₀ h h' base : Heap} {L : Addr} {m : Str → Option Value} {outer : List Env} {A₀ : Around} {news news' : List (Addr × Obj)}
theorem fr_mv {fs wr : List Addr} (F : Fr h₀ L h m) (M : Mv (L :: fs) wr h h') (hw : ∀ b ∈ wr, h₀.get? b = none ∧ b ≠ L) : Fr (rebH fs h₀ h') L h' m := by
  obtain ⟨oL, es, ep, hL, hd, hr⟩ := F.ns
  have hLw : L ∉ wr := fun q => (hw L q).2 rfl
  obtain ⟨sl, hL'⟩ := M.fr L (.head _) hLw oL hL
  refine ⟨⟨_, es, ep, hL', hd, hr⟩, fun b o e => ?_, Nat.le_trans (Nat.le_of_eq (rebH_reb fs h₀ h').size) F.above⟩
  have R := rebH_reb fs h₀ h'
  cases q : h₀.get? b with
  | none => rw [R.none b q] at e; cases e
  | some o₀ =>
    have hbL : b ≠ L := fun z => by
      have := Nat.lt_of_lt_of_le (Heap.lt_size q) F.above
      rw [z] at this; exact Nat.lt_irrefl _ this
    have hbw : b ∉ wr := fun z => by rw [(hw b z).1] at q; cases q
    by_cases hb : b ∈ fs
    · obtain ⟨sl', e'⟩ := M.fr b (.tail _ hb) hbw o₀ (F.keep b o₀ q)
      rw [rebH_get (o' := o₀) hb q e'] at e
      rw [e', e]
    · rw [R.out b hb, q] at e
      have e2 := Option.some.inj e
      subst e2
      refine M.keep b _ (F.keep b _ q) (fun z => ?_) hbw
      rcases List.mem_cons.mp z with z | z
      · exact hbL z
      · exact hb z
theorem below_reb {h₀₂ : Heap} (B : Below A₀ base outer h₀) (R : Reb (frs outer) h₀ h₀₂) : Below A₀ base outer h₀₂ := by
  refine ⟨B.stack, fun b o e => ?_, B.frames.of_keeps fun b o e _ => ?_⟩
  · rw [R.out b fun q => ?_]
    · exact B.stays b o e
    · rw [(B.frames.mem q).1] at e; cases e
  · by_cases hb : b ∈ frs outer
    · obtain ⟨sl, e'⟩ := R.fr b hb o e
      exact ⟨_, e', rfl⟩
    · exact ⟨o, (R.out b hb).trans e, rfl⟩
theorem news_reb {h₀₂ : Heap} (R : Reb (frs outer) h₀ h₀₂) (hk : ∀ p ∈ news', h'.get? p.1 = some p.2 ∧ p.1 ≠ L ∧ h₀.get? p.1 = none) : News h₀₂ L h' news' :=
  fun p hp => ⟨(hk p hp).1, (hk p hp).2.1, R.none _ (hk p hp).2.2⟩
end

/-- the exception leaves a def's frame: what stood stays, but for the frames' slots -/
theorem leave_raiseU {M : Model} {A : Around} {E : Value → Shared → Prop} {s' : Shared} {base g h : Heap} {outer : List Env} {L a e : Addr} {m : Str → Option Value} {name : Str} {scope : Scope} {cd : Value} {Q : Unit → Shared → Prop} {X : String}
    (K : Below A base outer g) (hx : Heap.MadeExc h s'.heap e X []) (F : Fr g L h m)
    (hQ : ∀ h', Mv (L :: frs outer) [] h h' → (∃ o, h'.get? e = some o ∧ o.cls = .type X) → Q () { s' with heap := h' }) (hk : scope.kind = .function := by rfl) :
    wpAny M (A.deeper (envOf name scope L a cd)) (leaving (envOf name scope L a cd) (.ref e)) Q E s' := by
  have K' := K.push (name := name) (a := a) (cd := cd) F hk
  have hin : ∀ env ∈ (envOf name scope L a cd :: outer), ∀ b, env.frame = some b → b ∈ (envOf name scope L a cd :: outer).filterMap (·.frame) := fun env he b hb => List.mem_filterMap.mpr ⟨env, he, hb⟩
  have hfs : (envOf name scope L a cd :: outer).filterMap (·.frame) = L :: frs outer := rfl
  refine wpAny_leaves_madeW K'.stack rfl (fun b o q => of_hideAll _ q) (funFrames_hide K'.frames hin) hx.of fun h' t x1 x2 x3 x4 => hQ h' ⟨fun b o e' hb _ => ?_, fun b hb _ o e' => ?_⟩ ?_
  · exact x1.1 b o (hideAll_get _ e' (by rw [hfs]; exact hb))
  · have hfd : ∀ vs, o.data ≠ .fields vs := by
      obtain ⟨_, o', e2, h2⟩ := K'.frames.mem (b := b) (by show b ∈ L :: frs outer; exact hb)
      rw [e'] at e2
      have := Option.some.inj e2
      subst this
      exact h2
    exact x4 b o (hx.keeps b o e') hfd
  · obtain ⟨ob, h1, h2⟩ := x1.there
    exact ⟨ob, h1, h2⟩

theorem raise_back {A : Around} {h₀ g h₁ h' base : Heap} {L L' : Addr} {m m' : Str → Option Value} {env : Env} {outer : List Env} {news : List (Addr × Obj)} (FG : Fr h₀ L g m) (B : Below A base (env :: outer) g) (hf : env.frame = some L)
    (F : Fr g L' h₁ m') (N : News g L' h₁ news) (M : Mv (L' :: L :: frs outer) [] h₁ h') : Fr (rebH (frs outer) h₀ h') L h' m ∧ News (rebH (frs outer) h₀ h') L h' news := by
  have hfr : ∀ b, b ∈ L :: frs outer → ∃ o, g.get? b = some o := by
    intro b hb
    have e : frs (env :: outer) = L :: frs outer := by simp [frs, hf]
    obtain ⟨_, o, e2, _⟩ := B.frames.mem (b := b) (by show b ∈ frs (env :: outer); rw [e]; exact hb)
    exact ⟨o, e2⟩
  have hne : ∀ b o, g.get? b = some o → b ≠ L' := fun b o e z => by
    have := Nat.lt_of_lt_of_le (Heap.lt_size e) F.above
    rw [z] at this; exact Nat.lt_irrefl _ this
  have MG : Mv (L :: frs outer) [] g h' := ⟨fun b o e hb hw => M.keep b o (F.keep b o e) (fun z => by
      rcases List.mem_cons.mp z with z | z
      · exact hne b o e z
      · exact hb z) hw, fun b hb hw o e => M.fr b (.tail _ hb) hw o (F.keep b o e)⟩
  refine ⟨fr_mv FG MG (fun b hb => nomatch hb), news_reb (outer := outer) (rebH_reb _ _ _) fun p hp => ?_⟩
  obtain ⟨e1, e2, e3⟩ := N p hp
  have hb : p.1 ∉ L :: frs outer := fun z => by
    obtain ⟨o, e⟩ := hfr _ z
    rw [e3] at e; cases e
  refine ⟨M.keep _ _ e1 (fun z => ?_) (fun z => nomatch z), fun z => hb (z ▸ .head _), ?_⟩
  · rcases List.mem_cons.mp z with z | z
    · exact e2 z
    · exact hb z
  · cases q : h₀.get? p.1 with
    | none => rfl
    | some o => rw [FG.keep _ _ q] at e3; cases e3

end Mine
end
section
example : Mine.Stp True := by first | (walk1; fail) | (w_top off; exact Mine.Stp.to trivial)
open PySem PySem.W PySem.Spec PySem.Calls PyProof.Rows Mine
set_option maxRecDepth 100000
set_option maxHeartbeats 8000000
local macro_rules | `(tactic| walk_at "exec While Constant cons nil") => `(tactic| (k_here; refine whl_start 1 (Stp.of ?_)))
local macro_rules | `(tactic| walk_at "WhlRest") => `(tactic| (refine Stp.of ?_))
local macro_rules | `(tactic| walk_at "call builtin:next") => `(tactic| (k_here; with_reducible refine at_b "next" ?_; k_dflt (first | (refine next_item (by k_asm) (by k_asm) (by k_upd) (by k_mem) (by assumption) ?_; intro h' F' N') | (refine next_end (by rfl) (by k_asm) (by k_asm) (by k_upd) (by k_mem) (by assumption) ?_; intro h' h'' e' F' N' M'))))
local macro_rules | `(tactic| walk_at "callWith ref") => `(tactic| (k_here; with_reducible refine at_cw ?_; k_dflt (refine callWith_mw (by k_asm) (by k_mem) ?_)))
local macro_rules | `(tactic| walk_at "And") => `(tactic| ((refine and_o (by k_asm) (by k_mem) ?_); (try dsimp only [List.nil_append, List.cons_append])))
local macro_rules | `(tactic| walk_at "call ref") => `(tactic| (k_here; (with_reducible show wpAny _ _ (call (Value.ref _) [Value.str _ _]) _ _ _); k_dflt (refine mw_strs (by k_asm) (by k_mem) (by k_mem) (by assumption) ?_)))
local macro_rules | `(tactic| k_all) => `(tactic| assumption)
local macro_rules | `(tactic| walk_at "leaving ref") => `(tactic| (k_here; (refine leave_raiseU (by assumption) (by assumption) (by assumption) ?_; intro h' M' oe')))
local macro_rules | `(tactic| walk_at "OwitStop") => `(tactic| (refine Stp.of ?_))
local macro_rules | `(tactic| walk_at "Eq") => `(tactic| exact News.get (by k_asm) (by k_mem))
namespace Mine
theorem ff_next (w : World) (news : List (Addr × Obj)) (x dx mw it l1 l2 : Nat) (v1 v2 : List Value) (x1 x2 : List Str) (h1 : StrsAre v1 x1) (h2 : StrsAre v2 x2) (n1 n2 : Nat) (i : Nat)
   (p : Program) (loose : List Str) (mean : ExcName → Option Value) (mg mb : Str → Option Value) (dp un : Nat) (gd : Option (List Code)) (cn : Str) (cs : Scope) (a : Addr) (ccd : Value) (cl : List (Str × Addr)) (outer : List Env) (A₀ : Around) (base h₀ : Heap) (L : Addr) (m : Str → Option Value) (s : Shared) (Q : Option Value → Shared → Prop) (E : Value → Shared → Prop)
    (B : Below A₀ base outer h₀) (F : Fr h₀ L s.heap m) (X : (hd.heap_1 w.params).In h₀)
    (N : News h₀ L s.heap ((x, ffObj dx mw it) :: (dx, emptyDict) :: (it, itObj l1 i) :: (mw, mwObj l2) :: (l1, listOf v1.toArray n1) :: (l2, listOf v2.toArray n2) :: news))
    (T : Top p loose mean mg mb h₀) (hk : cs.kind = .function) (hdp : dp + 8 < recursionLimit) (hu : un + 64 < cLine)
    (hoff : it ≠ x ∧ it ≠ dx ∧ it ≠ mw ∧ it ≠ l1 ∧ it ≠ l2 ∧ ∀ p ∈ news, p.1 ≠ it)
    (hsome : ∀ (j : Nat) (b : Str) (u : Tok) h' tk', i ≤ j → (∀ k, i ≤ k → k < j → ∀ y, x1[k]? = some y → y ∈ x2) → x1[j]? = some b → b ∉ x2 → v1[j]? = some (.str b u) → Fr h₀ L h' m →
      News h₀ L h' ((x, ffObj dx mw it) :: (dx, emptyDict) :: (it, itObj l1 (j + 1)) :: (mw, mwObj l2) :: (l1, listOf v1.toArray n1) :: (l2, listOf v2.toArray n2) :: news) → Q (some (.str b u)) { s with heap := h', toks := tk' })
    (hnone : ∀ (j : Nat) h₀₂ h' tk', (∀ k, i ≤ k → ∀ y, x1[k]? = some y → y ∈ x2) → Reb (frs outer) h₀ h₀₂ → Fr h₀₂ L h' m →
      News h₀₂ L h' ((x, ffObj dx mw it) :: (dx, emptyDict) :: (it, itDead j) :: (mw, mwObj l2) :: (l1, listOf v1.toArray n1) :: (l2, listOf v2.toArray n2) :: news) → Q none { s with heap := h', toks := tk' }) :
    wpAny (model PR w) (ktrTop dp un gd cn cs L a ccd cl outer) (call (.ref 76) [.ref x]) (fun v s' => Q (some v) s') (OwitStop (model PR w) (ktrTop dp un gd cn cs L a ccd cl outer) Q E) s := by
  unfold PR
  revert X; k_fill; intro X
  refine wpAny_call ?_
  k_dflt ktr_enter
  k_steps
  rename Fr _ _ _ _ => F3
  rename News _ _ _ _ => N3
  obtain ⟨u₀, m₀, F4⟩ := fr3 (a := Str.ofString "item") (b := Str.ofString "func") (c := Str.ofString "self") F3 rfl rfl
  clear F3 N
  clear F
  rename_i h3
  generalize hi : v1.length - i = k
  generalize tk + 1 + 1 = tk
  revert u₀ h3 tk
  induction k generalizing i with
  | zero =>
    intro h3 N3 u₀ F4 tk
    have hx : v1[i]? = none := by simp; omega
    obtain ⟨o1, o2, o3, o4, o5, o6⟩ := hoff
    refine whl_turn (k := 0) (by first | passes_own | with_unfolding_all passes_own) ?_
    k_steps
    rename Fr h₀ _ _ _ => FG
    rename Below _ _ (_ :: _) _ => BG
    rename Mv _ _ _ _ => M5
    rename Fr _ _ _ _ => F5
    rename News _ _ _ _ => N5
    rename (∃ o, _ ∧ _) => hoe
    obtain ⟨F6, N6⟩ := raise_back FG BG rfl F5 N5 M5
    refine wpAny_isInstance (T := "StopIteration") (b := true) hoe (by rw [isSubtype_type]; kernel_rfl) ?_
    rw [if_pos rfl]
    refine hnone i _ _ _ (fun k hk y hy => ?_) (rebH_reb _ _ _) F6 N6
    rw [List.getElem?_eq_none (by rw [← h1.length]; omega)] at hy
    cases hy
  | succ k ih =>
    intro h3 N3 u₀ F4 tk
    have hlt : i < v1.length := by omega
    obtain ⟨b, u, hv⟩ := h1.all v1[i] (List.getElem_mem hlt)
    have hx : v1[i]? = some (.str b u) := by rw [List.getElem?_eq_getElem hlt, hv]
    obtain ⟨y, t, e1, hy⟩ := h1.item i _ hx
    cases e1
    obtain ⟨o1, o2, o3, o4, o5, o6⟩ := hoff
    refine whl_turn (k := 0) (by first | passes_own | with_unfolding_all passes_own) ?_
    k_steps
    · rename (b ∈ x2) => hb
      rename Fr _ _ _ _ => F5
      rename News _ _ _ _ => N5
      refine whl_any 1 0 (ih (i + 1) (fun j b' u' h' tk' hj hs hx' hb' hv' F N => hsome j b' u' h' tk' (by omega) (fun k hk hkj y hy' => ?_) hx' hb' hv' F N) (fun j h₀₂ h' tk' hs R F N => hnone j h₀₂ h' tk' (fun k hk y hy' => ?_) R F N) (by omega) _ N5 _ (fr_over F5) _)
      · by_cases q : k = i
        · subst q
          rw [hy] at hy'; cases hy'; exact hb
        · exact hs k (by omega) hkj y hy'
      · by_cases q : k = i
        · subst q
          rw [hy] at hy'; cases hy'; exact hb
        · exact hs k (by omega) y hy'
    · rename (¬ b ∈ x2) => hb
      exact hsome i b u _ _ (Nat.le_refl _) (fun k h1 h2 => absurd h2 (by omega)) hy hb hx (by k_asm) (by k_asm)
end Mine
end
section
open PySem PySem.W PySem.Spec PySem.Calls PyProof.Rows Mine
set_option maxRecDepth 100000
set_option maxHeartbeats 4000000
namespace Mine
theorem slot_wd_get : Slot "wrapper_descriptor" "__get__" "wrapper_descriptor.__get__" :=
  .of (owner := "wrapper_descriptor") (n := "__get__") (by rw [typeLookup_type, builtinLookup_eq_fast]; kernel_rfl) (by decide +kernel) (by decide +kernel) (by decide +kernel)
    (by first | exact .inl (by decide +kernel) | exact .inr (by decide +kernel)) (by rw [isSubtype_type]; kernel_rfl)
theorem entry_wd_get : entryFor table "wrapper_descriptor.__get__" = some Builtin.«wrapper_descriptor.__get__» := entryFor_of_tree (by kernel_rfl)
theorem args_wd_get (a b c : Value) : argsOk "wrapper_descriptor.__get__" ⟨[a, b, c], []⟩ := by unfold argsOk; kernel_rfl
theorem wd_set : typeLookup (.type "wrapper_descriptor") "__set__" = pure none := am_miss_of_fast (by decide +kernel)
theorem wd_delete : typeLookup (.type "wrapper_descriptor") "__delete__" = pure none := am_miss_of_fast (by decide +kernel)
theorem type_contains : typeOf (.builtin "list.__contains__") = pure (.type "wrapper_descriptor") := by show builtinType _ = _; rw [builtinType_eq_fast]; kernel_rfl
theorem kind_contains : builtinKind "list.__contains__" = some .slot := by decide +kernel
theorem sub_ll : isSubtype (.type "list") (.type (".".intercalate ("list.__contains__".cutAt '.').dropLast)) = pure true := by
  rw [show (".".intercalate ("list.__contains__".cutAt '.').dropLast) = "list" by decide +kernel, isSubtype_type]; kernel_rfl
theorem getAttr_contains {prog : Program} {w : World} {A : Around} {E : Value → Shared → Prop} {s : Shared} {a : Addr} {xs : Array Value} {k : Nat} {Q : Value → Shared → Prop}
    (hx : s.heap.get? a = some (listOf xs k)) 
    (h : Q (.ref s.heap.objs.size) { s with heap := s.heap.push (mwObj a), toks := s.toks + 1 }) :
    wpAny (model prog w) A (getAttr (.ref a) (Str.ofString "__contains__") true) Q E s := by
  obtain ⟨hp, g, d, tk, os⟩ := s
  have hT : ∀ tk', (⟨hp, g, d, tk', os⟩ : Shared).TypeIs (.ref a) "list" := fun _ => ⟨_, hx, rfl⟩
  have f1 := sub_AttributeError
  have f3 := F.slot_list_getattribute.lookup
  have f4 := F.slot_list_getattribute.bind (.ref a)
  have f5 := am_list_getattr_none
  unfold getAttr getAttrBy
  repeat (any_goals (first | (with_reducible assumption) | ((with_reducible show Shared.TypeIs _ _ _); exact hT _) | ((with_reducible show wpAny _ _ (call (Value.builtin "list.__getattribute__") _ _) _ _ _); refine wpAny_call_entry F.slot_list_getattribute (hT _) am_entry_list_getattribute (Stp.of ?_) (F.args_list_getattribute_2 _ _)) | wp_step))
  unfold Builtin.«object.__getattribute__»
  have g1 := F.slot_list_contains.lookup
  have g2 := kind_contains
  have g3 := slot_wd_get.lookup
  have g4 := wd_set
  have g5 := wd_delete
  have g6 := type_contains
  have g7 := slot_wd_get.bind (.builtin "list.__contains__")
  refine Stp.to ?_
  repeat (any_goals (first | (with_reducible assumption) | ((with_reducible show Shared.TypeIs _ _ _); exact hT _) | ((with_reducible show wpAny _ _ (typeLookup _ _) _ _ _); (try simp only [kind_contains]); first | refine wpAny_of_eq g3 ?_ | refine wpAny_of_eq g4 ?_ | refine wpAny_of_eq g5 ?_) | ((with_reducible show codeAny _ _ (Code.call (Value.builtin "wrapper_descriptor.__get__") _) _ _); refine codeAny_call_builtin slot_wd_get.plain entry_wd_get (slot_wd_get.check _ _ _ _ _ _ _ _ type_contains (args_wd_get _ _ _) (Stp.of ?_))) | wp_step))
  unfold Builtin.«wrapper_descriptor.__get__»
  refine Stp.to ?_
  refine wpAny_bind (wpAny_of_eq (a := (.builtin "list.__contains__", some (.ref a), some (.type "list"))) (by first | rfl | kernel_rfl) ?_)
  dsimp only
  refine wpAny_bind ?_
  repeat (any_goals (first | (with_reducible assumption) | ((with_reducible show Shared.TypeIs _ _ _); exact hT _) | ((with_reducible show wpAny _ _ (isSubtype _ _) _ _ _); refine wpAny_of_eq (a := true) sub_ll (Stp.of ?_)) | wp_step))
  refine Stp.to ?_
  repeat (any_goals (first | (with_reducible assumption) | ((with_reducible show Shared.TypeIs _ _ _); exact hT _) | wp_step))
  exact ⟨_, rfl, wpAny_pure h⟩

noncomputable abbrev bmObj (l : Addr) : Obj := { cls := .type "builtin_function_or_method", data := .fields #[.builtin "list.append", .ref l] }
theorem slot_md_get : Slot "method_descriptor" "__get__" "method_descriptor.__get__" :=
  .of (owner := "method_descriptor") (n := "__get__") (by rw [typeLookup_type, builtinLookup_eq_fast]; kernel_rfl) (by decide +kernel) (by decide +kernel) (by decide +kernel)
    (by first | exact .inl (by decide +kernel) | exact .inr (by decide +kernel)) (by rw [isSubtype_type]; kernel_rfl)
theorem entry_md_get : entryFor table "method_descriptor.__get__" = some Builtin.«method_descriptor.__get__» := entryFor_of_tree (by kernel_rfl)
theorem args_md_get (a b c : Value) : argsOk "method_descriptor.__get__" ⟨[a, b, c], []⟩ := by unfold argsOk; kernel_rfl
theorem md_set : typeLookup (.type "method_descriptor") "__set__" = pure none := am_miss_of_fast (by decide +kernel)
theorem md_delete : typeLookup (.type "method_descriptor") "__delete__" = pure none := am_miss_of_fast (by decide +kernel)
theorem kind_append : builtinKind "list.append" = some .method := by decide +kernel
theorem sub_la : isSubtype (.type "list") (.type (".".intercalate ("list.append".cutAt '.').dropLast)) = pure true := by
  rw [show (".".intercalate ("list.append".cutAt '.').dropLast) = "list" by decide +kernel, isSubtype_type]; kernel_rfl
theorem told_append : Manifest.toldItsClass.contains "list.append" = false := by decide +kernel
theorem getAttr_append {prog : Program} {w : World} {A : Around} {E : Value → Shared → Prop} {s : Shared} {a : Addr} {xs : Array Value} {k : Nat} {Q : Value → Shared → Prop}
    (hx : s.heap.get? a = some (listOf xs k)) 
    (h : Q (.ref s.heap.objs.size) { s with heap := s.heap.push (bmObj a), toks := s.toks + 1 }) :
    wpAny (model prog w) A (getAttr (.ref a) (Str.ofString "append") true) Q E s := by
  obtain ⟨hp, g, d, tk, os⟩ := s
  have hT : ∀ tk', (⟨hp, g, d, tk', os⟩ : Shared).TypeIs (.ref a) "list" := fun _ => ⟨_, hx, rfl⟩
  have f1 := sub_AttributeError
  have f3 := F.slot_list_getattribute.lookup
  have f4 := F.slot_list_getattribute.bind (.ref a)
  have f5 := am_list_getattr_none
  unfold getAttr getAttrBy
  repeat (any_goals (first | (with_reducible assumption) | ((with_reducible show Shared.TypeIs _ _ _); exact hT _) | ((with_reducible show wpAny _ _ (call (Value.builtin "list.__getattribute__") _ _) _ _ _); refine wpAny_call_entry F.slot_list_getattribute (hT _) am_entry_list_getattribute (Stp.of ?_) (F.args_list_getattribute_2 _ _)) | wp_step))
  unfold Builtin.«object.__getattribute__»
  have g1 := F.slot_list_append.lookup
  have g2 := kind_append
  have g3 := slot_md_get.lookup
  have g4 := md_set
  have g5 := md_delete
  have g6 := F.type_list_append
  have g7 := slot_md_get.bind (.builtin "list.append")
  refine Stp.to ?_
  repeat (any_goals (first | (with_reducible assumption) | ((with_reducible show Shared.TypeIs _ _ _); exact hT _) | ((with_reducible show wpAny _ _ (typeLookup _ _) _ _ _); (try simp only [kind_append]); first | refine wpAny_of_eq g3 ?_ | refine wpAny_of_eq g4 ?_ | refine wpAny_of_eq g5 ?_) | ((with_reducible show codeAny _ _ (Code.call (Value.builtin "method_descriptor.__get__") _) _ _); refine codeAny_call_builtin slot_md_get.plain entry_md_get (slot_md_get.check _ _ _ _ _ _ _ _ F.type_list_append (args_md_get _ _ _) (Stp.of ?_))) | wp_step))
  unfold Builtin.«method_descriptor.__get__»
  refine Stp.to ?_
  refine wpAny_bind (wpAny_of_eq (a := (.builtin "list.append", some (.ref a), some (.type "list"))) (by first | rfl | kernel_rfl) ?_)
  dsimp only
  simp only [told_append, Bool.false_eq_true, if_false]
  refine wpAny_bind ?_
  repeat (any_goals (first | (with_reducible assumption) | ((with_reducible show Shared.TypeIs _ _ _); exact hT _) | ((with_reducible show wpAny _ _ (isSubtype _ _) _ _ _); refine wpAny_of_eq (a := true) sub_la (Stp.of ?_)) | wp_step))
  refine Stp.to ?_
  repeat (any_goals (first | (with_reducible assumption) | ((with_reducible show Shared.TypeIs _ _ _); exact hT _) | wp_step))
  exact ⟨_, rfl, wpAny_pure h⟩

section
variable {prog : Program} {w : World} {A : Around} {E : Value → Shared → Prop} {s : Shared} {h₀ : Heap} {L : Addr} {m : Str → Option Value} {news : List (Addr × Obj)} {a : Addr} {xs : Array Value} {k : Nat} {Q : Value → Shared → Prop}
theorem getc_N (F : Fr h₀ L s.heap m) (N : News h₀ L s.heap news) (hm : (a, listOf xs k) ∈ news)
    (h : ∀ x h', Fr h₀ L h' m → News h₀ L h' ((x, mwObj a) :: news) → (∀ p ∈ news, p.1 < x) → Q (.ref x) { s with heap := h', toks := s.toks + 1 }) :
    wpAny (model prog w) A (getAttr (.ref a) (Str.ofString "__contains__") true) Q E s :=
  getAttr_contains (N.get hm) (h _ _ (F.push _) (News.push F N _) fun p hp => Heap.lt_size (N p hp).1)
theorem geta_N (F : Fr h₀ L s.heap m) (N : News h₀ L s.heap news) (hm : (a, listOf xs k) ∈ news)
    (h : ∀ x h', Fr h₀ L h' m → News h₀ L h' ((x, bmObj a) :: news) → (∀ p ∈ news, p.1 < x) → Q (.ref x) { s with heap := h', toks := s.toks + 1 }) :
    wpAny (model prog w) A (getAttr (.ref a) (Str.ofString "append") true) Q E s :=
  getAttr_append (N.get hm) (h _ _ (F.push _) (News.push F N _) fun p hp => Heap.lt_size (N p hp).1)
end
end Mine
end
section
open PySem PySem.W PySem.Spec PySem.Calls PyProof.Rows Mine
set_option maxRecDepth 100000
set_option maxHeartbeats 4000000
namespace Mine
section
variable {prog : Program} {w : World} {A : Around} {E : Value → Shared → Prop} {s : Shared} {h₀ : Heap} {L : Addr} {m : Str → Option Value} {news news' : List (Addr × Obj)}
theorem sub_lm : isSubtype (.type "list") (.type "module") = pure false := by rw [isSubtype_type]; kernel_rfl
theorem sub_lt : isSubtype (.type "list") (.type "type") = pure false := by rw [isSubtype_type]; kernel_rfl
theorem wpAny_check_append {l : Addr} {x : Value} {xs : Array Value} {k : Nat} {Q : Unit → Shared → Prop} (hx : s.heap.get? l = some (listOf xs k)) (h : Q () s) : wpAny (model prog w) A (checkBoundCall "list.append" ⟨[.ref l, x], []⟩) Q E s := by
  have hT : s.TypeIs (.ref l) "list" := ⟨_, hx, rfl⟩
  unfold checkBoundCall
  cases hsig : Manifest.signature? "list.append" with
  | none => exact wpAny_pure h
  | some sig =>
    have hs := hsig
    rw [signature?_of (id := "list.append") (n := ['d', 'n', 'e', 'p', 'p', 'a']) (o := ['t', 's', 'i', 'l']) (by kernel_rfl) F.owner_list] at hs
    have e : Bind.checkArgs "list.append" { sig with full := s!"{Bind.lastOf "list"}.{Bind.lastOf "list.append"}" } ⟨[.ref l, x], []⟩ = pure () := by
      cases hs; kernel_rfl
    have v : Manifest.varargsMethods.contains "list.append" = false := by decide +kernel
    have f1 := sub_lm
    have f2 := sub_lt
    simp only [kind_append, v, Bool.false_or]
    show wpAny _ _ (isInstance (.ref l) (.type "module") >>= _) _ _ _
    refine wpAny_bind (wpAny_isInstance hT f1 ?_)
    show wpAny _ _ (isType (.ref l) >>= _) _ _ _
    refine wpAny_bind ?_
    unfold isType
    repeat (any_goals (first | assumption | refine wpAny_load hx ?_ | wp_step))
theorem bm_call {mw D n : Nat} {its : Array Value} {x : Value} {Q : Value → Shared → Prop} (FR : Fr h₀ L s.heap m) (N : News h₀ L s.heap news) (hm : (mw, bmObj D) ∈ news) (U : Upd D (listOf its n) (listOf (its.push x) (n + 1)) news news')
    (h : ∀ h', Fr h₀ L h' m → News h₀ L h' news' → Q .none { s with heap := h' }) (hsz : its.size ≤ sizeLine := by size_fits) : wpAny (model prog w) A (call (.ref mw) [x]) Q E s := by
  have hmw := (N _ hm).1
  have hl' := (N _ (upd_mem U)).1
  refine wpAny_call (codeAny_of_tree ?_)
  show wpAny _ _ (callAny (.ref mw) ⟨[x], []⟩) _ _ _
  simp only [callAny]
  refine wpAny_bind (wpAny_load hmw ?_)
  simp only [show (Value.type "builtin_function_or_method" == Value.type "method" || Value.type "builtin_function_or_method" == Value.type "builtin_function_or_method" || Value.type "builtin_function_or_method" == Value.type "method-wrapper") = true by decide, if_true]
  show wpAny _ _ (if (Value.type "builtin_function_or_method" != Value.type "method") = true then _ else _) _ _ _
  rw [if_pos (by decide)]
  refine wpAny_bind (wpAny_check_append hl' ?_)
  refine wpAny_bind (wpAny_pure (wpAny_pure ?_))
  refine ⟨plainId_quiet (by decide +kernel) _, codeAny_builtin F.entry_list_append ?_⟩
  rw [Around.under_plainId (by decide +kernel) _]
  show wpAny _ _ (updateSeq D (·.push x) >>= fun _ => ret .none) _ _ s
  refine wpAny_bind (wpAny_updateSeq hl' rfl (wpAny_pure ?_))
  obtain ⟨F', N'⟩ := upd_turn (f := fun o => o.mapSeq (·.push x)) FR N U (by rw [mapSeq_push]) rfl
  exact h _ F' N'
theorem callWith_bm {pos : Pos} {mw D : Addr} {first : List Value} {env : Env} {e : PySem.Expr} {rest : List PySem.Expr} {Q : Value → Shared → Prop} (_N : News h₀ L s.heap news) (_hm : (mw, bmObj D) ∈ news)
    (h : wpAny (model prog w) A (spliced (backTo pos (starEach (e :: rest) env))) (fun vs s₁ => s₁.heap.get? mw = some (bmObj D) ∧ wpAny (model prog w) A (call (.ref mw) (first ++ vs)) Q E s₁) E s)
    (he : starEach (e :: rest) env = (false, eval e env) :: starEach rest env := by rfl) (hplain : (backTo pos (starEach rest env)).any (·.1) = false := by rfl) :
    wpAny (model prog w) A (callWith pos (.ref mw) first (backTo pos (starEach (e :: rest) env)) []) Q E s := by
  rw [he] at h ⊢
  refine callWith_of (P := fun hp => hp.get? mw = some (bmObj D)) (by show ((false || (backTo pos (starEach rest env)).any (·.1)) || false) = false; rw [hplain]; rfl) (fun hp ho => ⟨.machine, .inr (.inl rfl), ?_⟩) (evalArgs_plain h)
  refine (Looks.ld (part := none) ho).andThen ?_
  exact Looks.of_pure (by first | rfl | kernel_rfl)
theorem iter_N {a n : Nat} {xs : Array Value} {Q : Value → Shared → Prop} (FR : Fr h₀ L s.heap m) (N : News h₀ L s.heap news) (hm : (a, listOf xs n) ∈ news)
    (h : ∀ x h', Fr h₀ L h' m → News h₀ L h' ((x, itObj a (0 : Nat)) :: news) → (∀ p ∈ news, p.1 < x) → Q (.ref x) { s with heap := h' }) :
    wpAny (model prog w) A (call (.builtin "iter") [.ref a]) Q E s := by
  refine call_function_entry (by decide +kernel) (by decide +kernel) kdk_entry_iter (kdk_args_iter _) ?_
  unfold Builtin.«iter»
  refine wpAny_bind (m := someArgs "iter" 1 2 _) (wpAny_of_eq (a := [Value.ref a]) (by first | rfl | kernel_rfl!) ?_)
  dsimp only
  refine wpAny_bind (wpAny_pyIter_list (items := xs) ⟨_, N.get hm, rfl, n, rfl⟩ ?_)
  exact wpAny_pure ⟨_, rfl, h _ _ (FR.push _) (News.push FR N _) fun p hp => Heap.lt_size (N p hp).1⟩
end
end Mine
end
section
example : Mine.Stp True := by first | (walk1; fail) | (w_top off; exact Mine.Stp.to trivial)
open PySem PySem.W PySem.Spec PySem.Calls PyProof.Rows Mine
set_option maxRecDepth 100000
set_option maxHeartbeats 8000000
namespace Mine
structure Cx (w : World) (p : Program) (loose : List Str) (mean : ExcName → Option Value) (mg mb : Str → Option Value) (cs : Scope) (A₀ : Around) (base : Heap) (outer : List Env) (h₀ : Heap) : Prop where
  B : Below A₀ base outer h₀
  XB : (hd.heap_1 w.params).In base
  TB : Top p loose mean mg mb base
  hk : cs.kind = .function
section
variable {w : World} {p : Program} {loose : List Str} {mean : ExcName → Option Value} {mg mb : Str → Option Value} {cs : Scope} {A₀ : Around} {base : Heap} {outer : List Env} {h₀ h₀₂ : Heap}
theorem Cx.X (C : Cx w p loose mean mg mb cs A₀ base outer h₀) : (hd.heap_1 w.params).In h₀ := C.XB.keeps C.B.stays
theorem Cx.T (C : Cx w p loose mean mg mb cs A₀ base outer h₀) : Top p loose mean mg mb h₀ := C.TB.keeps C.B.stays
theorem Cx.reb (C : Cx w p loose mean mg mb cs A₀ base outer h₀) (R : Reb (frs outer) h₀ h₀₂) : Cx w p loose mean mg mb cs A₀ base outer h₀₂ := ⟨below_reb C.B R, C.XB, C.TB, C.hk⟩
end

theorem ff_iter (w : World) (news : List (Addr × Obj)) (x dx mw it : Nat)
   (p : Program) (loose : List Str) (mean : ExcName → Option Value) (mg mb : Str → Option Value) (dp un : Nat) (gd : Option (List Code)) (cn : Str) (cs : Scope) (a : Addr) (ccd : Value) (cl : List (Str × Addr)) (outer : List Env) (A₀ : Around) (base h₀ : Heap) (L : Addr) (m : Str → Option Value) (s : Shared) (Q E : Value → Shared → Prop)
    (B : Below A₀ base outer h₀) (F : Fr h₀ L s.heap m) (X : (hd.heap_1 w.params).In h₀)
    (N : News h₀ L s.heap ((x, ffObj dx mw it) :: (dx, emptyDict) :: news))
    (T : Top p loose mean mg mb h₀) (hk : cs.kind = .function) (hdp : dp + 8 < recursionLimit) (hu : un + 64 < cLine)
    (hret : ∀ h' tk', Fr h₀ L h' m → News h₀ L h' ((x, ffObj dx mw it) :: (dx, emptyDict) :: news) → Q (.ref x) { s with heap := h', toks := tk' }) :
    wpAny (model PR w) (ktrTop dp un gd cn cs L a ccd cl outer) (call (.ref 69) [.ref x]) Q E s := by
  unfold PR
  revert X; k_fill; intro X
  refine wpAny_call ?_
  k_dflt ktr_enter
  k_steps
  exact hret _ _ (by k_asm) (by k_asm)

theorem next80 (w : World) {h₀ : Heap} (X : (hd.heap_1 w.params).In h₀) : findIn (hd.heap_1 w.params) (.ref 80) "__next__" = some (some (.ref 76)) := by revert X; k_fill; intro X; k_is
theorem fn76 (w : World) {h₀ : Heap} (X : (hd.heap_1 w.params).In h₀) : isFn (hd.heap_1 w.params) (.ref 76) = true := by revert X; k_fill; intro X; k_is
theorem ff_pyiter (w : World) (news : List (Addr × Obj)) (x dx mw it : Nat)
   (p : Program) (loose : List Str) (mean : ExcName → Option Value) (mg mb : Str → Option Value) (dp un : Nat) (gd : Option (List Code)) (cn : Str) (cs : Scope) (a : Addr) (ccd : Value) (cl : List (Str × Addr)) (outer : List Env) (A₀ : Around) (base h₀ : Heap) (L : Addr) (m : Str → Option Value) (s : Shared) (Q E : Value → Shared → Prop)
    (B : Below A₀ base outer h₀) (F : Fr h₀ L s.heap m) (X : (hd.heap_1 w.params).In h₀)
    (N : News h₀ L s.heap ((x, ffObj dx mw it) :: (dx, emptyDict) :: news))
    (T : Top p loose mean mg mb h₀) (hk : cs.kind = .function) (hdp : dp + 8 < recursionLimit) (hu : un + 64 < cLine)
    (hret : ∀ h' tk', Fr h₀ L h' m → News h₀ L h' ((x, ffObj dx mw it) :: (dx, emptyDict) :: news) → Q (.ref x) { s with heap := h', toks := tk' }) :
    wpAny (model PR w) (ktrTop dp un gd cn cs L a ccd cl outer) (pyIter (.ref x)) Q E s := by
  have I : InstAt s.heap x (ffObj dx mw it) 80 (some emptyDict) := InstAt.of_news N (.head _) (.tail _ (.head _))
  refine owit_iter F X I (f := 69) (by revert X; k_fill; intro X; k_is) (by revert X; k_fill; intro X; k_is) ?_
  refine ff_iter w news x dx mw it p loose mean mg mb dp un gd cn cs a ccd cl outer A₀ base h₀ L m s _ _ B F X N T hk hdp hu fun h' tk' F' N' => ?_
  have I' : InstAt h' x (ffObj dx mw it) 80 (some emptyDict) := InstAt.of_news N' (.head _) (.tail _ (.head _))
  exact owit_it (s := { s with heap := h', toks := tk' }) F' X I' (g := .ref 76) (by revert X; k_fill; intro X; k_is) (hret h' tk' F' N')

theorem ff_hint {w : World} {A : Around} {h₀ : Heap} {L : Addr} {m : Str → Option Value} {news : List (Addr × Obj)} {x dx mw it : Nat} {s : Shared} {Q : Bool → Shared → Prop} {E : Value → Shared → Prop} (F : Fr h₀ L s.heap m) (X : (hd.heap_1 w.params).In h₀)
    (N : News h₀ L s.heap ((x, ffObj dx mw it) :: (dx, emptyDict) :: news)) (h : Q true s) : wpAny (model PR w) A (Builtin.List.listLengthHint (.ref x)) Q E s := by
  have I : InstAt s.heap x (ffObj dx mw it) 80 (some emptyDict) := InstAt.of_news N (.head _) (.tail _ (.head _))
  have f1 : findIn (hd.heap_1 w.params) (.ref 80) "__len__" = some none := by revert X; k_fill; intro X; k_is
  have f2 : findIn (hd.heap_1 w.params) (.ref 80) "__length_hint__" = some none := by revert X; k_fill; intro X; k_is
  unfold Builtin.List.listLengthHint specialOf
  refine wpAny_bind (wpAny_bind (I.type.here ((looks_findIn (X.keeps F.keep) f1).here ?_)))
  show wpAny _ _ ((typeOf (.ref x) >>= fun t => typeLookup t _) >>= _) _ _ _
  refine wpAny_bind (wpAny_bind (I.type.here ((looks_findIn (X.keeps F.keep) f2).here ?_)))
  exact wpAny_pure h
end Mine
end
section
open PySem PySem.W PySem.Spec PySem.Calls PyProof.Rows Mine
set_option maxRecDepth 100000
set_option maxHeartbeats 8000000
namespace Mine
/-- what filterfalse keeps -/
noncomputable def without (x1 x2 : List Str) : List Str := x1.filter fun y => !decide (y ∈ x2)
theorem without_skip {x1 x2 : List Str} {i j : Nat} (hij : i ≤ j) (h : ∀ k, i ≤ k → k < j → ∀ y, x1[k]? = some y → y ∈ x2) : without (x1.take j) x2 = without (x1.take i) x2 := by
  induction j with
  | zero => have : i = 0 := by omega
            subst this; rfl
  | succ j ih =>
    by_cases q : i = j + 1
    · rw [q]
    · rw [← ih (by omega) fun k h1 h2 y hy => h k h1 (by omega) y hy]
      unfold without
      rw [List.take_add_one, List.filter_append]
      cases e : x1[j]? with
      | none => simp
      | some y => simp [h j (by omega) (by omega) y e]
theorem without_take {x1 x2 : List Str} {j : Nat} {b : Str} (e : x1[j]? = some b) (hb : b ∉ x2) : without (x1.take (j + 1)) x2 = without (x1.take j) x2 ++ [b] := by
  unfold without
  rw [List.take_add_one, List.filter_append, e]
  simp [hb]
theorem without_all {x1 x2 : List Str} {i : Nat} (h : ∀ k, i ≤ k → ∀ y, x1[k]? = some y → y ∈ x2) : without x1 x2 = without (x1.take i) x2 := by
  by_cases q : i ≤ x1.length
  · rw [← without_skip q fun k h1 _ => h k h1, List.take_length]
  · rw [List.take_of_length_le (by omega)]
theorem strsAre_push {vs : Array Value} {xs : List Str} {b : Str} {u : Tok} (h : StrsAre vs.toList xs) : StrsAre (vs.push (.str b u)).toList (xs ++ [b]) := by
  rw [Array.toList_push]
  generalize vs.toList = l at h
  induction h with
  | nil => exact .cons _ u .nil
  | cons x t h ih => exact .cons x t ih

section
variable {h₀ h : Heap} {L : Addr} {R : List (Addr × Obj)} {a b c d e f g : Addr × Obj}
theorem npick {all rest : List (Addr × Obj)} {p : Addr × Obj} (N : News h₀ L h all) (m : p ∈ all) (r : News h₀ L h rest) : News h₀ L h (p :: rest) := List.forall_mem_cons.mpr ⟨N _ m, r⟩
theorem n_in3 (N : News h₀ L h (a :: b :: c :: R)) : News h₀ L h (b :: c :: a :: R) := npick N (.tail _ (.head _)) (npick N (.tail _ (.tail _ (.head _))) (npick N (.head _) (fun q hq => N q (.tail _ (.tail _ (.tail _ hq))))))
theorem n_out3 (N : News h₀ L h (b :: c :: a :: R)) : News h₀ L h (a :: b :: c :: R) := npick N (.tail _ (.tail _ (.head _))) (npick N (.head _) (npick N (.tail _ (.head _)) (fun q hq => N q (.tail _ (.tail _ (.tail _ hq))))))
theorem n_in7 (N : News h₀ L h (a :: b :: c :: d :: e :: f :: g :: R)) : News h₀ L h (b :: c :: d :: e :: f :: g :: a :: R) := npick N (.tail _ (.head _)) (npick N (.tail _ (.tail _ (.head _))) (npick N (.tail _ (.tail _ (.tail _ (.head _)))) (npick N (.tail _ (.tail _ (.tail _ (.tail _ (.head _))))) (npick N (.tail _ (.tail _ (.tail _ (.tail _ (.tail _ (.head _)))))) (npick N (.tail _ (.tail _ (.tail _ (.tail _ (.tail _ (.tail _ (.head _))))))) (npick N (.head _) (fun q hq => N q (.tail _ (.tail _ (.tail _ (.tail _ (.tail _ (.tail _ (.tail _ hq))))))))))))))
theorem n_out7 (N : News h₀ L h (b :: c :: d :: e :: f :: g :: a :: R)) : News h₀ L h (a :: b :: c :: d :: e :: f :: g :: R) := npick N (.tail _ (.tail _ (.tail _ (.tail _ (.tail _ (.tail _ (.head _))))))) (npick N (.head _) (npick N (.tail _ (.head _)) (npick N (.tail _ (.tail _ (.head _))) (npick N (.tail _ (.tail _ (.tail _ (.head _)))) (npick N (.tail _ (.tail _ (.tail _ (.tail _ (.head _))))) (npick N (.tail _ (.tail _ (.tail _ (.tail _ (.tail _ (.head _)))))) (fun q hq => N q (.tail _ (.tail _ (.tail _ (.tail _ (.tail _ (.tail _ (.tail _ hq))))))))))))))
end
noncomputable abbrev ffLed (x dx mw it : Nat) (ito : Obj) (l1 l2 : Nat) (v1 v2 : List Value) (n1 n2 : Nat) (news : List (Addr × Obj)) : List (Addr × Obj) :=
  (x, ffObj dx mw it) :: (dx, emptyDict) :: (it, ito) :: (mw, mwObj l2) :: (l1, listOf v1.toArray n1) :: (l2, listOf v2.toArray n2) :: news

theorem big_size : 10000 ≤ sizeLine := by decide +kernel
theorem ff_loop (w : World) (news : List (Addr × Obj)) (x dx mw it l1 l2 : Nat) (v1 v2 : List Value) (x1 x2 : List Str) (h1 : StrsAre v1 x1) (h2 : StrsAre v2 x2) (n1 n2 : Nat)
   (p : Program) (loose : List Str) (mean : ExcName → Option Value) (mg mb : Str → Option Value) (dp un : Nat) (gd : Option (List Code)) (cn : Str) (cs : Scope) (a : Addr) (ccd : Value) (cl : List (Str × Addr)) (outer : List Env) (A₀ : Around) (base h₀ : Heap) (L : Addr) (m : Str → Option Value) (R : Result → Shared → Prop) (S : Nat)
    (C : Cx w p loose mean mg mb cs A₀ base outer h₀) (hdp : dp + 8 < recursionLimit) (hu : un + 65 < cLine)
    (hoff : it ≠ x ∧ it ≠ dx ∧ it ≠ mw ∧ it ≠ l1 ∧ it ≠ l2 ∧ ∀ p ∈ news, p.1 ≠ it) (hS : S ≠ x ∧ S ≠ dx ∧ S ≠ it ∧ S ≠ mw ∧ S ≠ l1 ∧ S ≠ l2 ∧ ∀ p ∈ news, p.1 ≠ S)
    (hfit : x1.length ≤ 1000) :
   ∀ (k i : Nat) (acc : Array Value) (c : Nat) (s : Shared), v1.length - i = k → i ≤ v1.length → StrsAre acc.toList (without (x1.take i) x2) → Fr h₀ L s.heap m → 
    News h₀ L s.heap ((S, listOf acc c) :: ffLed x dx mw it (itObj l1 i) l1 l2 v1 v2 n1 n2 news) →
    (∀ j acc' c' h₀₂ h' tk', StrsAre acc'.toList (without x1 x2) → Reb (frs outer) h₀ h₀₂ → Fr h₀₂ L h' m → News h₀₂ L h' ((S, listOf acc' c') :: ffLed x dx mw it (itDead j) l1 l2 v1 v2 n1 n2 news) → R (.ok (.ret .none)) { s with heap := h', toks := tk' }) →
    codeAny (model PR w) (ktrTop dp un gd cn cs L a ccd cl outer) (.builtin "list.extend.loop" ⟨[.ref S, .ref x, .none], []⟩) R s := by
  intro k
  induction k using Nat.strongRecOn with
  | ind k ih =>
  intro i acc c s hk hi hacc FR N hR
  have X := C.X
  have f1 := next80 w X
  have f2 := fn76 w X
  have hperm : ∀ {h₀ h' : Heap} {ito : Obj} {acc : Array Value} {c : Nat}, News h₀ L h' ((S, listOf acc c) :: ffLed x dx mw it ito l1 l2 v1 v2 n1 n2 news) → News h₀ L h' (ffLed x dx mw it ito l1 l2 v1 v2 n1 n2 ((S, listOf acc c) :: news)) := by
    intro h₀ h' ito acc c N
    exact n_in7 N
  have hperm' : ∀ {h₀ h' : Heap} {ito : Obj} {acc : Array Value} {c : Nat}, News h₀ L h' (ffLed x dx mw it ito l1 l2 v1 v2 n1 n2 ((S, listOf acc c) :: news)) → News h₀ L h' ((S, listOf acc c) :: ffLed x dx mw it ito l1 l2 v1 v2 n1 n2 news) := by
    intro h₀ h' ito acc c N
    exact n_out7 N
  have N1 := hperm N
  have I : InstAt s.heap x (ffObj dx mw it) 80 (some emptyDict) := InstAt.of_news N1 (.head _) (.tail _ (.head _))
  refine codeAny_builtin F.entry_extend_loop ?_
  rw [Around.under_plainId F.plain_extend_loop _]
  show wpAny _ _ (pyNext (.ref x) >>= _) _ _ s
  have key := fun (Q : Option Value → Shared → Prop) (E : Value → Shared → Prop) h1' h2' h3' => owit_next (Q := Q) (E := E) (A := ktrTop dp (un + 1) gd cn cs L a ccd cl outer) FR X I f1 f2 (ff_next w ((S, listOf acc c) :: news) x dx mw it l1 l2 v1 v2 x1 x2 h1 h2 n1 n2 i p loose mean mg mb dp (un + 1) gd cn cs a ccd cl outer A₀ base h₀ L m s Q E C.B FR X N1 C.T C.hk hdp (by omega) h1' h2' h3')
  refine wpAny_bind (key _ _ ?_ ?_ ?_)
  · obtain ⟨o1, o2, o3, o4, o5, o6⟩ := hoff
    refine ⟨o1, o2, o3, o4, o5, fun q hq => ?_⟩
    rcases List.mem_cons.mp hq with rfl | hq
    · exact hS.2.2.1
    · exact o6 q hq
  · intro j b u h' tk' hij hall hb hnb hv F' N'
    have hjl : j < v1.length := by
      have := (List.getElem?_eq_some_iff.mp hv).1; exact this
    have N2 := hperm' N'
    have hacc' := strsAre_push (b := b) (u := u) hacc
    rw [← without_skip hij hall, ← without_take hb hnb] at hacc'
    have hsz : acc.size ≤ 1000 := by
      have e1 := hacc.length
      have e2 : (without (x1.take i) x2).length ≤ x1.length := Nat.le_trans (List.length_filter_le _ _) (by rw [List.length_take]; omega)
      rw [Array.length_toList] at e1
      omega
    show wpAny _ _ (updateSeq S (·.push (.str b u)) >>= _) _ _ _
    have hSg := N2.get (.head _)
    have hq : ∀ q ∈ ffLed x dx mw it (itObj l1 (j + 1)) l1 l2 v1 v2 n1 n2 news, q.1 ≠ S := by
      obtain ⟨s1, s2, s3, s4, s5, s6, s7⟩ := hS
      exact List.forall_mem_cons.mpr ⟨fun e => s1 e.symm, List.forall_mem_cons.mpr ⟨fun e => s2 e.symm, List.forall_mem_cons.mpr ⟨fun e => s3 e.symm, List.forall_mem_cons.mpr ⟨fun e => s4 e.symm, List.forall_mem_cons.mpr ⟨fun e => s5 e.symm, List.forall_mem_cons.mpr ⟨fun e => s6 e.symm, s7⟩⟩⟩⟩⟩⟩
    obtain ⟨F3, N3⟩ := upd_turn (s := { s with heap := h', toks := tk' }) (f := fun o => o.mapSeq (·.push (.str b u))) (o' := listOf (acc.push (.str b u)) (c + 1)) F' N2 (.head hq) (by rw [mapSeq_push]) rfl
    have big := big_size
    have step := ih (v1.length - (j + 1)) (by omega) (j + 1) (acc.push (.str b u)) (c + 1) { s with heap := h'.update S (fun o => o.mapSeq (·.push (.str b u))), toks := tk' } rfl (by omega) hacc' F3 N3 hR
    exact wpAny_bind (wpAny_updateSeq hSg rfl (wpAny_pure ⟨plainId_quiet F.plain_extend_loop _, step⟩) (by omega) (by show (acc.push (.str b u)).size ≤ sizeLine + 1; rw [Array.size_push]; omega))
  · intro j h₀₂ h' tk' hall Rb F' N'
    refine wpAny_pure ?_
    rw [← without_all hall] at hacc
    exact hR j acc c h₀₂ h' tk' hacc Rb F' (hperm' N')
end Mine
end
section
open PySem PySem.W PySem.Spec PySem.Calls PyProof.Rows Mine
set_option maxRecDepth 100000
set_option maxHeartbeats 8000000
namespace Mine
theorem list_ff (w : World) (news : List (Addr × Obj)) (x dx mw it l1 l2 : Nat) (v1 v2 : List Value) (x1 x2 : List Str) (h1 : StrsAre v1 x1) (h2 : StrsAre v2 x2) (n1 n2 : Nat)
   (p : Program) (loose : List Str) (mean : ExcName → Option Value) (mg mb : Str → Option Value) (dp un : Nat) (gd : Option (List Code)) (cn : Str) (cs : Scope) (a : Addr) (ccd : Value) (cl : List (Str × Addr)) (outer : List Env) (A₀ : Around) (base h₀ : Heap) (L : Addr) (m : Str → Option Value) (s : Shared) (Q E : Value → Shared → Prop)
    (C : Cx w p loose mean mg mb cs A₀ base outer h₀) (FR : Fr h₀ L s.heap m) (N : News h₀ L s.heap (ffLed x dx mw it (itObj l1 (0 : Nat)) l1 l2 v1 v2 n1 n2 news)) (hdp : dp + 8 < recursionLimit) (hu : un + 75 < cLine)
    (hoff : it ≠ x ∧ it ≠ dx ∧ it ≠ mw ∧ it ≠ l1 ∧ it ≠ l2 ∧ ∀ p ∈ news, p.1 ≠ it) (hfit : x1.length ≤ 1000)
    (hQ : ∀ S j acc' c' h₀₂ h' tk', (∀ p ∈ ffLed x dx mw it (itObj l1 (0 : Nat)) l1 l2 v1 v2 n1 n2 news, p.1 < S) → StrsAre acc'.toList (without x1 x2) → Reb (frs outer) h₀ h₀₂ → Fr h₀₂ L h' m →
      News h₀₂ L h' ((S, listOf acc' c') :: ffLed x dx mw it (itDead j) l1 l2 v1 v2 n1 n2 news) → Q (.ref S) { s with heap := h', toks := tk' }) :
    wpAny (model PR w) (ktrTop dp un gd cn cs L a ccd cl outer) (call (.type "list") [.ref x]) Q E s := by
  have hlt : ∀ p ∈ ffLed x dx mw it (itObj l1 (0 : Nat)) l1 l2 v1 v2 n1 n2 news, p.1 < s.heap.objs.size := fun p hp => Heap.lt_size (N p hp).1
  have big := big_size
  refine callType_codes (Q₁ := fun obj s₁ => obj = .ref s.heap.objs.size ∧ s₁ = { s with heap := s.heap.push { cls := .type "list", data := .seq #[] } }) F.called_list (F.typeCall_list_1 _) F.entry_list_init
    (code_list_new _ ⟨rfl, rfl⟩) fun obj s₁ h₁ => ?_
  obtain ⟨rfl, rfl⟩ := h₁
  have F1 := FR.push (listOf #[] 0)
  have N1 := News.push FR N (listOf #[] 0)
  generalize hS : s.heap.objs.size = S at *
  generalize hh : s.heap.push (listOf #[] 0) = h1' at *
  have hSg : h1'.get? S = some (listOf #[] 0) := N1.get (.head _)
  refine ⟨⟨_, hSg, rfl⟩, F.args_list_init_2 _ _, ?_⟩
  show wpAny _ _ (do let old ← Builtin.List.listItems (.ref S); Builtin.List.listUpdate (.ref S) (fun _ => #[]); letGo old.toList.reverse; Builtin.List.listExtendWith (.ref S) (.ref x) .none) _ _ _
  refine wpAny_bind ?_
  unfold Builtin.List.listItems
  refine wpAny_bind (wpAny_seqItems hSg rfl (wpAny_pure ?_))
  show wpAny _ _ (updateSeq S (fun _ => #[]) >>= fun _ => letGo (#[] : Array Value).toList.reverse >>= fun _ => Builtin.List.listExtendWith (.ref S) (.ref x) .none) _ _ _
  have hq : ∀ q ∈ ffLed x dx mw it (itObj l1 (0 : Nat)) l1 l2 v1 v2 n1 n2 news, q.1 ≠ S := fun q hq => Nat.ne_of_lt (hlt q hq)
  refine wpAny_bind (wpAny_updateSeq hSg rfl ?_)
  obtain ⟨F2, N2⟩ := upd_turn (s := { s with heap := h1' }) (f := Obj.mapSeq (fun _ => (#[] : Array Value))) (o' := listOf #[] 0) F1 N1 (.head hq) (by rfl) rfl
  refine wpAny_bind (wpAny_letGo ?_)
  generalize hh2 : Heap.update h1' S (Obj.mapSeq (fun _ => (#[] : Array Value))) = h2' at *
  have I : InstAt h2' x (ffObj dx mw it) 80 (some emptyDict) := InstAt.of_news N2 (.tail _ (.head _)) (.tail _ (.tail _ (.head _)))
  unfold Builtin.List.listExtendWith
  refine wpAny_bind (I.type.here ?_)
  have hx : S ≠ x := fun e => hq _ (.head _) e.symm
  have e1 : Builtin.List.listSameRef (.ref S) (.ref x) = false := by simp [Builtin.List.listSameRef, hx]
  have e2 : (Value.ref 80 == Value.type "list") = false := by decide
  have e3 : (Value.ref 80 == Value.type "tuple") = false := by decide
  simp only [e1, e2, e3, Bool.or_false, Bool.false_eq_true, if_false]
  refine wpAny_bind ?_
  have N2' : News h₀ L h2' ((x, ffObj dx mw it) :: (dx, emptyDict) :: ((S, listOf #[] 0) :: (it, itObj l1 (0 : Nat)) :: (mw, mwObj l2) :: (l1, listOf v1.toArray n1) :: (l2, listOf v2.toArray n2) :: news)) := by
    exact n_in3 N2
  refine ff_pyiter w _ x dx mw it p loose mean mg mb dp (un + 1 + 1) gd cn cs a ccd cl outer A₀ base h₀ L m { s with heap := h2' } _ _ C.B F2 C.X N2' C.T C.hk hdp (by omega) fun h3' tk3 F3 N3 => ?_
  refine wpAny_bind (wpAny_holding ?_)
  refine ff_hint (s := { s with heap := h3', toks := tk3 }) F3 C.X N3 ?_
  have N3' : News h₀ L h3' ((S, listOf #[] 0) :: ffLed x dx mw it (itObj l1 (0 : Nat)) l1 l2 v1 v2 n1 n2 news) := by
    exact n_out3 N3
  show wpAny _ _ (rule "list.extend.makes-room" >>= fun _ => Builtin.List.listTouch (.ref S) >>= fun _ =>
    again (.builtin "list.extend.loop" ⟨[.ref S, .ref x, .none], []⟩)) _ _ _
  refine wpAny_bind (wpAny_rule ?_)
  refine wpAny_bind ?_
  show wpAny _ _ (updateSeq S (·.push .none) >>= fun _ => updateSeq S (·.pop)) _ _ _
  obtain ⟨F4, N4⟩ := upd_turn (s := { s with heap := h3', toks := tk3 }) (f := Obj.mapSeq (·.push Value.none)) (o' := listOf #[.none] 1) F3 N3' (.head hq) (by rfl) rfl
  refine wpAny_bind (wpAny_updateSeq (N3'.get (.head _)) rfl ?_)
  obtain ⟨F5, N5⟩ := upd_turn (s := { s with heap := h3'.update S (Obj.mapSeq (·.push Value.none)), toks := tk3 }) (f := Obj.mapSeq (·.pop)) (o' := listOf #[] 2) F4 N4 (.head hq) (by rfl) rfl
  refine wpAny_updateSeq (N4.get (.head _)) rfl ?_ (by first | seq_fits | (show _ ≤ _; simp; omega)) (by first | seq_fits | (show _ ≤ _; simp))
  refine wpAny_pure ⟨plainId_quiet F.plain_extend_loop _, ?_⟩
  refine ff_loop w news x dx mw it l1 l2 v1 v2 x1 x2 h1 h2 n1 n2 p loose mean mg mb dp (un + 1) gd cn cs a ccd cl outer A₀ base h₀ L m _ S C hdp (by omega) hoff ⟨hx, fun e => hq _ (.tail _ (.head _)) e.symm, fun e => hq _ (.tail _ (.tail _ (.head _))) e.symm, fun e => hq _ (.tail _ (.tail _ (.tail _ (.head _)))) e.symm, fun e => hq _ (.tail _ (.tail _ (.tail _ (.tail _ (.head _))))) e.symm, fun e => hq _ (.tail _ (.tail _ (.tail _ (.tail _ (.tail _ (.head _)))))) e.symm, fun q hm => hq _ (.tail _ (.tail _ (.tail _ (.tail _ (.tail _ (.tail _ hm))))))⟩ hfit
    _ 0 #[] 2 _ rfl (Nat.zero_le _) .nil F5 N5 ?_
  intro j acc' c' h₀₂ h' tk' ha Rb F6 N6
  exact ⟨rfl, hQ S j acc' c' h₀₂ h' tk' hlt ha Rb F6 N6⟩
end Mine
end
section
open PySem PySem.W PySem.Spec PySem.Calls PyProof.Rows Mine
set_option maxRecDepth 100000
set_option maxHeartbeats 8000000
namespace Mine
noncomputable def LeaveU (outer : List Env) (h₀ : Heap) (L : Addr) (m : Str → Option Value) (g : Heap) (R : Result → Shared → Prop) (v : Value) (s' : Shared) : Prop :=
  ∃ g₂ L' m' news', Reb (L :: frs outer) g g₂ ∧ Fr g₂ L' s'.heap m' ∧ News g₂ L' s'.heap news' ∧ (∀ h₀₂, Reb (frs outer) h₀ h₀₂ → Fr h₀₂ L s'.heap m → News h₀₂ L s'.heap news' → R (.ok (.ret v)) s')
theorem Reb.up {fs : List Addr} {h h₂ : Heap} (x : Reb fs h h₂) {b : Addr} {o : Obj} (e : h.get? b = some o) : ∃ sl, h₂.get? b = some { o with slots := sl } := by
  by_cases q : b ∈ fs
  · exact x.fr b q o e
  · exact ⟨o.slots, (x.out b q).trans e⟩
theorem leaveU_back {outer : List Env} {h₀ : Heap} {L : Addr} {m : Str → Option Value} {g : Heap} {R : Result → Shared → Prop} {v : Value} {s' : Shared} (FG : Fr h₀ L g m) (hl : LeaveU outer h₀ L m g R v s') : R (.ok (.ret v)) s' := by
  obtain ⟨g₂, L', m', news', Rb, F', N', k⟩ := hl
  have M : Mv (L :: frs outer) [] g s'.heap := ⟨fun b o e hb _ => F'.keep b o ((Rb.out b hb).trans e), fun b hb _ o e => by
    obtain ⟨sl, e'⟩ := Rb.fr b hb o e
    exact ⟨sl, F'.keep _ _ e'⟩⟩
  have hh := fr_mv FG M (fun b hb => nomatch hb)
  refine k _ (rebH_reb _ _ _) hh fun q hq => ⟨(N' q hq).1, fun e => ?_, ?_⟩
  · obtain ⟨oL, _, _, hL, _⟩ := FG.ns
    obtain ⟨sl, e'⟩ := Rb.up hL
    have := (N' q hq).2.2
    rw [e, e'] at this; cases this
  · refine (rebH_reb _ _ _).none _ ?_
    cases z : h₀.get? q.1 with
    | none => rfl
    | some o =>
      obtain ⟨sl, e'⟩ := Rb.up (FG.keep _ _ z)
      have := (N' q hq).2.2
      rw [e'] at this; cases this

theorem allLt_ne {d : Addr} : ∀ {l : List (Addr × Obj)}, AllLt d l → ∀ p ∈ l, p.1 ≠ d
  | [], _, _, h => nomatch h
  | q :: r, h, p, hp => by
    rcases List.mem_cons.mp hp with rfl | hp
    · exact Nat.ne_of_lt h.1
    · exact allLt_ne h.2 p hp
theorem allLt_lt {d : Addr} : ∀ {l : List (Addr × Obj)}, AllLt d l → ∀ p ∈ l, p.1 < d
  | [], _, _, h => nomatch h
  | q :: r, h, p, hp => by
    rcases List.mem_cons.mp hp with rfl | hp
    · exact h.1
    · exact allLt_lt h.2 p hp
theorem allLt_trans {d x : Nat} : ∀ {l : List (Addr × Obj)}, AllLt d l → d ≤ x → AllLt x l
  | [], _, _ => trivial
  | _ :: _, h, q => ⟨Nat.lt_of_lt_of_le h.1 q, allLt_trans h.2 q⟩
theorem aa1 {P0 Q : Prop} (h : P0 ∧ Q) : Q := h.2
theorem aa2 {P0 P1 Q : Prop} (h : P0 ∧ P1 ∧ Q) : Q := h.2.2
theorem aa3 {P0 P1 P2 Q : Prop} (h : P0 ∧ P1 ∧ P2 ∧ Q) : Q := h.2.2.2
theorem aa4 {P0 P1 P2 P3 Q : Prop} (h : P0 ∧ P1 ∧ P2 ∧ P3 ∧ Q) : Q := h.2.2.2.2
theorem aa5 {P0 P1 P2 P3 P4 Q : Prop} (h : P0 ∧ P1 ∧ P2 ∧ P3 ∧ P4 ∧ Q) : Q := h.2.2.2.2.2
theorem aa6 {P0 P1 P2 P3 P4 P5 Q : Prop} (h : P0 ∧ P1 ∧ P2 ∧ P3 ∧ P4 ∧ P5 ∧ Q) : Q := h.2.2.2.2.2.2
theorem aa7 {P0 P1 P2 P3 P4 P5 P6 Q : Prop} (h : P0 ∧ P1 ∧ P2 ∧ P3 ∧ P4 ∧ P5 ∧ P6 ∧ Q) : Q := h.2.2.2.2.2.2.2
theorem aa8 {P0 P1 P2 P3 P4 P5 P6 P7 Q : Prop} (h : P0 ∧ P1 ∧ P2 ∧ P3 ∧ P4 ∧ P5 ∧ P6 ∧ P7 ∧ Q) : Q := h.2.2.2.2.2.2.2.2
theorem aa9 {P0 P1 P2 P3 P4 P5 P6 P7 P8 Q : Prop} (h : P0 ∧ P1 ∧ P2 ∧ P3 ∧ P4 ∧ P5 ∧ P6 ∧ P7 ∧ P8 ∧ Q) : Q := h.2.2.2.2.2.2.2.2.2
theorem aa10 {P0 P1 P2 P3 P4 P5 P6 P7 P8 P9 Q : Prop} (h : P0 ∧ P1 ∧ P2 ∧ P3 ∧ P4 ∧ P5 ∧ P6 ∧ P7 ∧ P8 ∧ P9 ∧ Q) : Q := h.2.2.2.2.2.2.2.2.2.2
theorem aa11 {P0 P1 P2 P3 P4 P5 P6 P7 P8 P9 P10 Q : Prop} (h : P0 ∧ P1 ∧ P2 ∧ P3 ∧ P4 ∧ P5 ∧ P6 ∧ P7 ∧ P8 ∧ P9 ∧ P10 ∧ Q) : Q := h.2.2.2.2.2.2.2.2.2.2.2
theorem aa12 {P0 P1 P2 P3 P4 P5 P6 P7 P8 P9 P10 P11 Q : Prop} (h : P0 ∧ P1 ∧ P2 ∧ P3 ∧ P4 ∧ P5 ∧ P6 ∧ P7 ∧ P8 ∧ P9 ∧ P10 ∧ P11 ∧ Q) : Q := h.2.2.2.2.2.2.2.2.2.2.2.2
theorem aa13 {P0 P1 P2 P3 P4 P5 P6 P7 P8 P9 P10 P11 P12 Q : Prop} (h : P0 ∧ P1 ∧ P2 ∧ P3 ∧ P4 ∧ P5 ∧ P6 ∧ P7 ∧ P8 ∧ P9 ∧ P10 ∧ P11 ∧ P12 ∧ Q) : Q := h.2.2.2.2.2.2.2.2.2.2.2.2.2
theorem aa14 {P0 P1 P2 P3 P4 P5 P6 P7 P8 P9 P10 P11 P12 P13 Q : Prop} (h : P0 ∧ P1 ∧ P2 ∧ P3 ∧ P4 ∧ P5 ∧ P6 ∧ P7 ∧ P8 ∧ P9 ∧ P10 ∧ P11 ∧ P12 ∧ P13 ∧ Q) : Q := h.2.2.2.2.2.2.2.2.2.2.2.2.2.2
theorem neG {a b : Nat} (h : a ≠ b) : a ≠ b := h
theorem ab0 {a b : Nat} { Q : Prop} (h : a < b ∧ Q) : a < b := h.1
theorem ab1 {a b : Nat} {P0 Q : Prop} (h : P0 ∧ a < b ∧ Q) : a < b := h.2.1
theorem ab2 {a b : Nat} {P0 P1 Q : Prop} (h : P0 ∧ P1 ∧ a < b ∧ Q) : a < b := h.2.2.1
theorem ab3 {a b : Nat} {P0 P1 P2 Q : Prop} (h : P0 ∧ P1 ∧ P2 ∧ a < b ∧ Q) : a < b := h.2.2.2.1
theorem ab4 {a b : Nat} {P0 P1 P2 P3 Q : Prop} (h : P0 ∧ P1 ∧ P2 ∧ P3 ∧ a < b ∧ Q) : a < b := h.2.2.2.2.1
theorem ab5 {a b : Nat} {P0 P1 P2 P3 P4 Q : Prop} (h : P0 ∧ P1 ∧ P2 ∧ P3 ∧ P4 ∧ a < b ∧ Q) : a < b := h.2.2.2.2.2.1
theorem ab6 {a b : Nat} {P0 P1 P2 P3 P4 P5 Q : Prop} (h : P0 ∧ P1 ∧ P2 ∧ P3 ∧ P4 ∧ P5 ∧ a < b ∧ Q) : a < b := h.2.2.2.2.2.2.1
theorem ab7 {a b : Nat} {P0 P1 P2 P3 P4 P5 P6 Q : Prop} (h : P0 ∧ P1 ∧ P2 ∧ P3 ∧ P4 ∧ P5 ∧ P6 ∧ a < b ∧ Q) : a < b := h.2.2.2.2.2.2.2.1
theorem an1 {d x : Nat} {l : List (Addr × Obj)} {P0 : Prop} (h : P0 ∧ AllLt d l) (q : d ≤ x) : ∀ p ∈ l, p.1 ≠ x := allLt_ne (allLt_trans h.2 q)
theorem an2 {d x : Nat} {l : List (Addr × Obj)} {P0 P1 : Prop} (h : P0 ∧ P1 ∧ AllLt d l) (q : d ≤ x) : ∀ p ∈ l, p.1 ≠ x := allLt_ne (allLt_trans h.2.2 q)
theorem an3 {d x : Nat} {l : List (Addr × Obj)} {P0 P1 P2 : Prop} (h : P0 ∧ P1 ∧ P2 ∧ AllLt d l) (q : d ≤ x) : ∀ p ∈ l, p.1 ≠ x := allLt_ne (allLt_trans h.2.2.2 q)
theorem an4 {d x : Nat} {l : List (Addr × Obj)} {P0 P1 P2 P3 : Prop} (h : P0 ∧ P1 ∧ P2 ∧ P3 ∧ AllLt d l) (q : d ≤ x) : ∀ p ∈ l, p.1 ≠ x := allLt_ne (allLt_trans h.2.2.2.2 q)
theorem an5 {d x : Nat} {l : List (Addr × Obj)} {P0 P1 P2 P3 P4 : Prop} (h : P0 ∧ P1 ∧ P2 ∧ P3 ∧ P4 ∧ AllLt d l) (q : d ≤ x) : ∀ p ∈ l, p.1 ≠ x := allLt_ne (allLt_trans h.2.2.2.2.2 q)
theorem an6 {d x : Nat} {l : List (Addr × Obj)} {P0 P1 P2 P3 P4 P5 : Prop} (h : P0 ∧ P1 ∧ P2 ∧ P3 ∧ P4 ∧ P5 ∧ AllLt d l) (q : d ≤ x) : ∀ p ∈ l, p.1 ≠ x := allLt_ne (allLt_trans h.2.2.2.2.2.2 q)
theorem an7 {d x : Nat} {l : List (Addr × Obj)} {P0 P1 P2 P3 P4 P5 P6 : Prop} (h : P0 ∧ P1 ∧ P2 ∧ P3 ∧ P4 ∧ P5 ∧ P6 ∧ AllLt d l) (q : d ≤ x) : ∀ p ∈ l, p.1 ≠ x := allLt_ne (allLt_trans h.2.2.2.2.2.2.2 q)
theorem an8 {d x : Nat} {l : List (Addr × Obj)} {P0 P1 P2 P3 P4 P5 P6 P7 : Prop} (h : P0 ∧ P1 ∧ P2 ∧ P3 ∧ P4 ∧ P5 ∧ P6 ∧ P7 ∧ AllLt d l) (q : d ≤ x) : ∀ p ∈ l, p.1 ≠ x := allLt_ne (allLt_trans h.2.2.2.2.2.2.2.2 q)
theorem an9 {d x : Nat} {l : List (Addr × Obj)} {P0 P1 P2 P3 P4 P5 P6 P7 P8 : Prop} (h : P0 ∧ P1 ∧ P2 ∧ P3 ∧ P4 ∧ P5 ∧ P6 ∧ P7 ∧ P8 ∧ AllLt d l) (q : d ≤ x) : ∀ p ∈ l, p.1 ≠ x := allLt_ne (allLt_trans h.2.2.2.2.2.2.2.2.2 q)
theorem aa15 {P0 P1 P2 P3 P4 P5 P6 P7 P8 P9 P10 P11 P12 P13 P14 Q : Prop} (h : P0 ∧ P1 ∧ P2 ∧ P3 ∧ P4 ∧ P5 ∧ P6 ∧ P7 ∧ P8 ∧ P9 ∧ P10 ∧ P11 ∧ P12 ∧ P13 ∧ P14 ∧ Q) : Q := h.2.2.2.2.2.2.2.2.2.2.2.2.2.2.2
theorem aa16 {P0 P1 P2 P3 P4 P5 P6 P7 P8 P9 P10 P11 P12 P13 P14 P15 Q : Prop} (h : P0 ∧ P1 ∧ P2 ∧ P3 ∧ P4 ∧ P5 ∧ P6 ∧ P7 ∧ P8 ∧ P9 ∧ P10 ∧ P11 ∧ P12 ∧ P13 ∧ P14 ∧ P15 ∧ Q) : Q := h.2.2.2.2.2.2.2.2.2.2.2.2.2.2.2.2
theorem aa17 {P0 P1 P2 P3 P4 P5 P6 P7 P8 P9 P10 P11 P12 P13 P14 P15 P16 Q : Prop} (h : P0 ∧ P1 ∧ P2 ∧ P3 ∧ P4 ∧ P5 ∧ P6 ∧ P7 ∧ P8 ∧ P9 ∧ P10 ∧ P11 ∧ P12 ∧ P13 ∧ P14 ∧ P15 ∧ P16 ∧ Q) : Q := h.2.2.2.2.2.2.2.2.2.2.2.2.2.2.2.2.2
theorem aa18 {P0 P1 P2 P3 P4 P5 P6 P7 P8 P9 P10 P11 P12 P13 P14 P15 P16 P17 Q : Prop} (h : P0 ∧ P1 ∧ P2 ∧ P3 ∧ P4 ∧ P5 ∧ P6 ∧ P7 ∧ P8 ∧ P9 ∧ P10 ∧ P11 ∧ P12 ∧ P13 ∧ P14 ∧ P15 ∧ P16 ∧ P17 ∧ Q) : Q := h.2.2.2.2.2.2.2.2.2.2.2.2.2.2.2.2.2.2
theorem aa19 {P0 P1 P2 P3 P4 P5 P6 P7 P8 P9 P10 P11 P12 P13 P14 P15 P16 P17 P18 Q : Prop} (h : P0 ∧ P1 ∧ P2 ∧ P3 ∧ P4 ∧ P5 ∧ P6 ∧ P7 ∧ P8 ∧ P9 ∧ P10 ∧ P11 ∧ P12 ∧ P13 ∧ P14 ∧ P15 ∧ P16 ∧ P17 ∧ P18 ∧ Q) : Q := h.2.2.2.2.2.2.2.2.2.2.2.2.2.2.2.2.2.2.2
theorem aa20 {P0 P1 P2 P3 P4 P5 P6 P7 P8 P9 P10 P11 P12 P13 P14 P15 P16 P17 P18 P19 Q : Prop} (h : P0 ∧ P1 ∧ P2 ∧ P3 ∧ P4 ∧ P5 ∧ P6 ∧ P7 ∧ P8 ∧ P9 ∧ P10 ∧ P11 ∧ P12 ∧ P13 ∧ P14 ∧ P15 ∧ P16 ∧ P17 ∧ P18 ∧ P19 ∧ Q) : Q := h.2.2.2.2.2.2.2.2.2.2.2.2.2.2.2.2.2.2.2.2
theorem aa21 {P0 P1 P2 P3 P4 P5 P6 P7 P8 P9 P10 P11 P12 P13 P14 P15 P16 P17 P18 P19 P20 Q : Prop} (h : P0 ∧ P1 ∧ P2 ∧ P3 ∧ P4 ∧ P5 ∧ P6 ∧ P7 ∧ P8 ∧ P9 ∧ P10 ∧ P11 ∧ P12 ∧ P13 ∧ P14 ∧ P15 ∧ P16 ∧ P17 ∧ P18 ∧ P19 ∧ P20 ∧ Q) : Q := h.2.2.2.2.2.2.2.2.2.2.2.2.2.2.2.2.2.2.2.2.2
theorem aa22 {P0 P1 P2 P3 P4 P5 P6 P7 P8 P9 P10 P11 P12 P13 P14 P15 P16 P17 P18 P19 P20 P21 Q : Prop} (h : P0 ∧ P1 ∧ P2 ∧ P3 ∧ P4 ∧ P5 ∧ P6 ∧ P7 ∧ P8 ∧ P9 ∧ P10 ∧ P11 ∧ P12 ∧ P13 ∧ P14 ∧ P15 ∧ P16 ∧ P17 ∧ P18 ∧ P19 ∧ P20 ∧ P21 ∧ Q) : Q := h.2.2.2.2.2.2.2.2.2.2.2.2.2.2.2.2.2.2.2.2.2.2
theorem aa23 {P0 P1 P2 P3 P4 P5 P6 P7 P8 P9 P10 P11 P12 P13 P14 P15 P16 P17 P18 P19 P20 P21 P22 Q : Prop} (h : P0 ∧ P1 ∧ P2 ∧ P3 ∧ P4 ∧ P5 ∧ P6 ∧ P7 ∧ P8 ∧ P9 ∧ P10 ∧ P11 ∧ P12 ∧ P13 ∧ P14 ∧ P15 ∧ P16 ∧ P17 ∧ P18 ∧ P19 ∧ P20 ∧ P21 ∧ P22 ∧ Q) : Q := h.2.2.2.2.2.2.2.2.2.2.2.2.2.2.2.2.2.2.2.2.2.2.2
theorem aa24 {P0 P1 P2 P3 P4 P5 P6 P7 P8 P9 P10 P11 P12 P13 P14 P15 P16 P17 P18 P19 P20 P21 P22 P23 Q : Prop} (h : P0 ∧ P1 ∧ P2 ∧ P3 ∧ P4 ∧ P5 ∧ P6 ∧ P7 ∧ P8 ∧ P9 ∧ P10 ∧ P11 ∧ P12 ∧ P13 ∧ P14 ∧ P15 ∧ P16 ∧ P17 ∧ P18 ∧ P19 ∧ P20 ∧ P21 ∧ P22 ∧ P23 ∧ Q) : Q := h.2.2.2.2.2.2.2.2.2.2.2.2.2.2.2.2.2.2.2.2.2.2.2.2
section
variable {prog : Program} {w : World} {A A₀ : Around} {E : Value → Shared → Prop} {s : Shared} {K : Frag} {L : Addr} {h₀ base : Heap} {m mg mb : Str → Option Value} {news : List (Addr × Obj)} {p : Program} {loose : List Str} {mean : ExcName → Option Value}
theorem code_defU {env : Env} {outer : List Env} {R : Result → Shared → Prop} {name qual : Str} {params : Arguments} {body : List Stmt} {scope : Scope} {dV kV doc pm cdv ct oc : Value} {an od : Option Addr} {osl : Array (Option Value)} {f : Addr} {args : Args} {binds : List (Str × Value)}
    (B : Below A₀ base outer h₀) (F : Fr h₀ L s.heap m) (X₀ : K.In h₀) (N : News h₀ L s.heap news) (T : Top p loose mean mg mb h₀) (hA : A.frames = some (env :: outer)) (hf : env.frame = some L) (hke : env.scope.kind = .function)
    (ho : K.lookup f = some ⟨oc, od, .func (fnOf name qual params body scope dV kV doc pm an cdv ct), osl⟩) (hcd : codeIn K cdv qual = true) (hroom : A.depth < recursionLimit)
    (hbind : BindsTo s (fnOf name qual params body scope dV kV doc pm an cdv ct) args binds) (hloc : ∀ y ∈ binds, scope.names.lookup y.1 = some .local)
    (h : ∀ g L' h₁, Fr h₀ L g m → Fr g L' h₁ (fun y => binds.reverse.lookup y) → News g L' h₁ news → Below A base (env :: outer) g → K.In g → Top p loose mean mg mb g →
      wpAny (model prog w) (A.deeper (envOf qual scope L' f cdv)) (execs body (envOf qual scope L' f cdv))
        (fun fl s' => LeaveU outer h₀ L m g R (match fl with | .ret v => v | _ => .none) s')
        (fun e s' => wpAny (model prog w) (A.deeper (envOf qual scope L' f cdv)) (leaving (envOf qual scope L' f cdv) e) (fun _ s'' => R (.error e) s'') (fun e' s'' => R (.error e') s'') s')
        { s with heap := h₁, toks := s.toks + binds.length })
    (hco : scope.isCoroutine = false) (hgen : scope.isGenerator = false) (hk : scope.kind = .function)
    (hcell : ∀ x ∈ scope.names, x.2 ≠ .cell) : codeAny (model prog w) A (.call (.ref f) args) R s := by
  obtain ⟨FG, BG, st, lv⟩ := groundX (R := R) B F N hA hf hke
  refine codeAny_call_def (fd := fnX name qual params body scope [] dV kV doc pm an cdv ct) (body := body) (binds := binds) hroom ((X₀.keeps F.keep) _ _ ho) rfl (T.nolimit.keeps F.keep) (codeRec_of (X₀.keeps F.keep) hcd) rfl hbind hcell hloc (fun h₁ hns hk₁ => ?_) hco hgen hk
  exact wpAny_mono (h _ s.heap.objs.size h₁ FG ⟨hns, fun b o e => hk₁ b o (of_hideAll _ e), Nat.le_of_eq (hideAll_size _ _)⟩
    (fun p hp => ⟨hk₁ _ _ (N p hp).1, Nat.ne_of_lt (Heap.lt_size (N p hp).1), hideAll_none _ (List.mem_map_of_mem hp)⟩) BG (X₀.keeps st) (T.keeps st)) (fun fl s' hl => leaveU_back FG hl) fun _ _ y => y
end
end Mine
end
section
open PySem PySem.W PySem.Spec PySem.Calls PyProof.Rows
set_option maxRecDepth 100000
set_option maxHeartbeats 4000000
namespace Mine
theorem runs_toks {M : Model} {Γ : PySem.Ctx} {p : Pos} {t : Sem Fin} {fs : List Frame} {s : Shared} {e : End} {s' : Shared} (h : Runs M Γ p t fs s e s') : s.toks ≤ s'.toks := by
  induction h <;> first | exact Nat.le_refl _ | assumption | omega | (dsimp only at *; omega) | (dsimp only [Shared.setGen] at *; omega) | (simp only [Shared.setGen] at *; omega)
theorem wakes_toks {M : Model} {Γ : PySem.Ctx} {p : Pos} {g : Nat} {r : Resume} {s : Shared} {res : GenResult} {s' : Shared} (h : Wakes M Γ p g r s res s') : s.toks ≤ s'.toks := by
  unfold Wakes at h
  split at h
  · exact h.elim
  · split at h
    · obtain ⟨e₁, s₁, h1, _, _, rfl⟩ := h
      have q := runs_toks h1
      exact q
    · exact Nat.le_of_eq (by rw [h.2])
    · exact Nat.le_of_eq (by rw [h.2]; rfl)
  · obtain ⟨e₁, s₁, h1, _, _, rfl⟩ := h
    have q := runs_toks h1
    exact q
  all_goals exact Nat.le_of_eq (by rw [h.2])
theorem wp_toks {α : Type} {M : Model} {Γ : PySem.Ctx} {Q : α → Pos → Shared → Prop} {E : Value → Pos → Shared → Prop} : ∀ (t : Sem α) (p : Pos) (s : Shared), Sem.wp M Γ t Q E p s → ∀ n, n ≤ s.toks → Sem.wp M Γ t (fun a p' s' => n ≤ s'.toks ∧ Q a p' s') (fun e p' s' => n ≤ s'.toks ∧ E e p' s') p s := by
  intro t
  induction t with
  | pure a => intro p s h n hn; rw [Sem.wp] at h ⊢; exact ⟨hn, h⟩
  | raise e => intro p s h n hn; rw [Sem.wp] at h ⊢; exact ⟨hn, h⟩
  | unsupported w => intro p s h n hn; rw [Sem.wp] at h; exact h.elim
  | finish e => intro p s h n hn; rw [Sem.wp] at h; exact h.elim
  | rule tag k ih => intro p s h n hn; rw [Sem.wp] at h ⊢; exact ih _ _ _ h n hn
  | «at» q k ih => intro p s h n hn; rw [Sem.wp] at h ⊢; exact ih _ _ _ h n hn
  | load a pt k ih => intro p s h n hn; rw [Sem.wp] at h ⊢; obtain ⟨o, h1, h2⟩ := h; exact ⟨o, h1, ih _ _ _ h2 n hn⟩
  | update a pt f k ih => intro p s h n hn; rw [Sem.wp] at h ⊢; exact ⟨h.1, ih _ _ _ h.2 n hn⟩
  | alloc o k ih => intro p s h n hn; rw [Sem.wp] at h ⊢; exact ih _ _ _ h n hn
  | loadIfAlive a k ih => intro p s h n hn; rw [Sem.wp] at h ⊢; exact ih _ _ _ h n hn
  | point l k ih => intro p s h n hn; rw [Sem.wp] at h ⊢; exact ih _ _ _ h n hn
  | register a k ih => intro p s h n hn; rw [Sem.wp] at h; exact h.elim
  | fresh k ih => intro p s h n hn; rw [Sem.wp] at h ⊢; exact ih _ _ _ h n (Nat.le_succ_of_le hn)
  | ask k ih => intro p s h n hn; rw [Sem.wp] at h ⊢; exact ih _ _ _ h n hn
  | choose src m k ih => intro p s h n hn; rw [Sem.wp] at h ⊢; exact ⟨h.1, ih _ _ _ h.2 n hn⟩
  | os q l k ih => intro p s h n hn; rw [Sem.wp] at h ⊢; exact ih _ _ _ h n hn
  | call c hd g l k ih =>
    intro p s h n hn; rw [Sem.wp] at h ⊢
    obtain ⟨r, s₁, h1, h2⟩ := h
    exact ⟨r, s₁, h1, ih _ _ _ h2 n (Nat.le_trans hn (runs_toks h1))⟩
  | handled o k ih => intro p s h n hn; rw [Sem.wp] at h ⊢; exact ih _ _ _ h n hn
  | newGen c k ih => intro p s h n hn; rw [Sem.wp] at h ⊢; exact ih _ _ _ h n hn
  | genState g k ih => intro p s h n hn; rw [Sem.wp] at h ⊢; obtain ⟨o, h1, h2⟩ := h; exact ⟨o, h1, ih _ _ _ h2 n hn⟩
  | resume g r l k ih =>
    intro p s h n hn; rw [Sem.wp] at h ⊢
    obtain ⟨r, s₁, h1, h2⟩ := h
    exact ⟨r, s₁, h1, ih _ _ _ h2 n (Nat.le_trans hn (wakes_toks h1))⟩
  | «yield» v g l k ih => intro p s h n hn; rw [Sem.wp] at h; exact h.elim
  | stack k ih => intro p s h n hn; rw [Sem.wp] at h ⊢; exact ih _ _ _ h n hn
  | fork c k ih => intro p s h n hn; rw [Sem.wp] at h; exact h.elim
  | thread k ih => intro p s h n hn; rw [Sem.wp] at h ⊢; exact ih _ _ _ h n hn
  | await a t d l k ih => intro p s h n hn; rw [Sem.wp] at h; exact h.elim
/-- whatever a tree does, the tokens don't fall -/
theorem toks_use {α : Type} {M : Model} {A : Around} {t : Sem α} {Q : α → Shared → Prop} {E : Value → Shared → Prop} {s : Shared}
    (h : wpAny M A t (fun a s' => s.toks ≤ s'.toks → Q a s') (fun e s' => s.toks ≤ s'.toks → E e s') s) : wpAny M A t Q E s := fun Γ p hΓ =>
  Sem.wp_mono _ Γ _ (fun _ _ _ h' => h'.2 h'.1) (fun _ _ _ h' => h'.2 h'.1) p s (wp_toks t p s (h Γ p hΓ) s.toks (Nat.le_refl _))
theorem toks_useQ {α : Type} {M : Model} {A : Around} {t : Sem α} {Q : α → Shared → Prop} {E : Value → Shared → Prop} {s : Shared}
    (h : wpAny M A t (fun a s' => s.toks ≤ s'.toks → Q a s') E s) : wpAny M A t Q E s := toks_use (wpAny_mono h (fun _ _ z => z) fun _ _ z _ => z)
theorem execs_consT {M : Model} {A : Around} {E : Value → Shared → Prop} {s : Shared} {env : Env} {st : Stmt} {rest : List Stmt} {Q : Flow → Shared → Prop}
    (h : wpAny M A (exec st env) (fun f s' => s.toks ≤ s'.toks → (match f with | .next => wpAny M A (execs rest env) Q E s' | f => Q f s')) E s) : wpAny M A (execs (st :: rest) env) Q E s := wpAny_execs_cons (toks_useQ h)
/-- the token lo stood before -/
noncomputable abbrev TokLo (lo tk : Nat) : Prop := 0 < lo ∧ lo < tk
theorem TokLo.up {lo tk k : Nat} (h : TokLo lo tk) (q : tk ≤ k) : TokLo lo k := ⟨h.1, Nat.lt_of_lt_of_le h.2 q⟩
theorem TokLo.succ {lo k : Nat} (h : TokLo lo k) : TokLo lo (k + 1) := h.up (Nat.le_succ _)
theorem tok_step {lo tk0 a b : Nat} (h : TokLo lo tk0) (_ : a ≤ b) (h2 : lo < b) : TokLo lo b := ⟨h.1, h2⟩
theorem lt_up {a b : Nat} (h : a < b) : a < b + 1 := Nat.lt_succ_of_lt h
theorem lt_up2 {a b : Nat} (h : a < b) : a < b + 2 := lt_up (lt_up h)
theorem tk_lt {lo b : Nat} (h : TokLo lo b) : lo < b := h.2
end Mine
end
section
open PySem PySem.W PySem.Spec PySem.Calls PyProof.Rows Mine
set_option maxRecDepth 100000
set_option maxHeartbeats 4000000
namespace Mine
section
variable {prog : Program} {w : World} {A : Around} {E : Value → Shared → Prop} {s : Shared} {h₀ : Heap} {L a : Addr} {m : Str → Option Value} {cn : Str} {cs : Scope} {ccd : Value} {cl : List (Str × Addr)} {news : List (Addr × Obj)}
  {x y z : Str} {p1 p2 p3 p4 p5 pos : Pos} {kk : Nat} {whole : Sem Value}
theorem at_inc {env : Env} {k : Int} {M : Model} {Q : Flow → Shared → Prop} (h : wpAny M A (exec (.Assign [.Name x p1] (.BinOp (.Name z p2) .Add (.Constant (.int k) kk p3) p4) pos) env) Q E s) : wpAny M A (exec (.Assign [.Name x p1] (.BinOp (.Name z p2) .Add (.Constant (.int k) kk p3) p4) pos) env) Q E s := h
theorem at_set {env : Env}  {M : Model} {Q : Flow → Shared → Prop} (h : wpAny M A (exec (.Assign [.Name x p1] (.Name z p2) pos) env) Q E s) : wpAny M A (exec (.Assign [.Name x p1] (.Name z p2) pos) env) Q E s := h
theorem at_item {env : Env}  {M : Model} {Q : Flow → Shared → Prop} (h : wpAny M A (exec (.Assign [.Name x p1] (.Subscript (.Name z p2) (.Name y p3) p4) pos) env) Q E s) : wpAny M A (exec (.Assign [.Name x p1] (.Subscript (.Name z p2) (.Name y p3) p4) pos) env) Q E s := h
theorem at_lt {env : Env}  {M : Model} {Q : Bool → Shared → Prop} (h : wpAny M A (isTrue (.Compare (.Name z p1) [.Lt] [.Name y p2] p3) env whole) Q E s) : wpAny M A (isTrue (.Compare (.Name z p1) [.Lt] [.Name y p2] p3) env whole) Q E s := h
theorem at_eqc {env : Env} {c : Str} {M : Model} {Q : Bool → Shared → Prop} (h : wpAny M A (isTrue (.Compare (.Name z p1) [.Eq] [.Constant (.str c) kk p2] p3) env whole) Q E s) : wpAny M A (isTrue (.Compare (.Name z p1) [.Eq] [.Constant (.str c) kk p2] p3) env whole) Q E s := h
theorem at_ieq {env : Env} {c : Str} {M : Model} {Q : Bool → Shared → Prop} (h : wpAny M A (isTrue (.Compare (.Subscript (.Name z p1) (.Name y p2) p3) [.Eq] [.Constant (.str c) kk p4] p5) env whole) Q E s) : wpAny M A (isTrue (.Compare (.Subscript (.Name z p1) (.Name y p2) p3) [.Eq] [.Constant (.str c) kk p4] p5) env whole) Q E s := h
theorem at_ine {env : Env} {c : Str} {M : Model} {Q : Bool → Shared → Prop} (h : wpAny M A (isTrue (.Compare (.Subscript (.Name z p1) (.Name y p2) p3) [.NotEq] [.Constant (.str c) kk p4] p5) env whole) Q E s) : wpAny M A (isTrue (.Compare (.Subscript (.Name z p1) (.Name y p2) p3) [.NotEq] [.Constant (.str c) kk p4] p5) env whole) Q E s := h
theorem at_add {env : Env}  {M : Model} {Q : Flow → Shared → Prop} (h : wpAny M A (exec (.Expr (.Call (.Name z p1) [.Name y p2] [] p3) pos) env) Q E s) : wpAny M A (exec (.Expr (.Call (.Name z p1) [.Name y p2] [] p3) pos) env) Q E s := h
theorem fr_let {h : Heap} {P : Prop} (F : Fr h₀ L h m) (k : let m' := m; Fr h₀ L h m' → P) : P := k F
theorem a_let {M : Model} {α : Type} {t : Sem α} {Q : α → Shared → Prop} (k : let A' := A; wpAny M A' t Q E s) : wpAny M A t Q E s := k
theorem le_and {a b : Nat} {R : Prop} (h : a ≤ b) (r : R) : a ≤ b ∧ R := ⟨h, r⟩
theorem si_inc {i k : Int} {t : Tok} {Q : Flow → Shared → Prop} (F : Fr h₀ L s.heap m) (N : News h₀ L s.heap news) (hv : m z = some (.int i t))
    (h : ∀ h' t' tk', let m' : Str → Option Value := fun y => if y = x then some (.int (i + k) t') else m y; Fr h₀ L h' m' → News h₀ L h' news → Q .next { s with heap := h', toks := tk' })
    (hk : cs.kind = .function := by rfl) (hz : (envX cn cs L a ccd cl).kindOf z = some .local := by rfl) (hx : (envX cn cs L a ccd cl).kindOf x = some .local := by rfl) (hd : (z == ("__debug__" : Str)) = false := by decide)
    (hs : swapsWith (.BinOp (.Name z p2) .Add (.Constant (.int k) kk p3) p4) (some (.Name x p1)) pos.line (envX cn cs L a ccd cl) = pure false := by rfl) :
    wpAny (model prog w) A (exec (.Assign [.Name x p1] (.BinOp (.Name z p2) .Add (.Constant (.int k) kk p3) p4) pos) (envX cn cs L a ccd cl)) Q E s := by
  refine wpAny_Assign_Name ?_ hs
  refine wpAny_BinOp ?_
  refine nameX_L F hv ?_ hk hz hd
  refine wpAny_Constant_int ?_
  refine PyProof.Rows.add_int ?_
  exact storeX_L (s := { s with toks := s.toks + 1 + 1 }) F N (fun h' F' N' => h h' _ _ F' N') hk hx
theorem si_set {v : Value} {Q : Flow → Shared → Prop} (F : Fr h₀ L s.heap m) (N : News h₀ L s.heap news) (hv : m z = some v)
    (h : ∀ h' tk', let m' : Str → Option Value := fun y => if y = x then some v else m y; Fr h₀ L h' m' → News h₀ L h' news → Q .next { s with heap := h', toks := tk' })
    (hk : cs.kind = .function := by rfl) (hz : (envX cn cs L a ccd cl).kindOf z = some .local := by rfl) (hx : (envX cn cs L a ccd cl).kindOf x = some .local := by rfl) (hd : (z == ("__debug__" : Str)) = false := by decide)
    (hs : swapsWith (.Name z p2) (some (.Name x p1)) pos.line (envX cn cs L a ccd cl) = pure false := by rfl) :
    wpAny (model prog w) A (exec (.Assign [.Name x p1] (.Name z p2) pos) (envX cn cs L a ccd cl)) Q E s := by
  refine wpAny_Assign_Name ?_ hs
  refine nameX_L F hv ?_ hk hz hd
  exact storeX_L F N (fun h' F' N' => h h' _ F' N') hk hx
theorem si_item {b : Str} {i : Int} {t u : Tok} {Q : Flow → Shared → Prop} (F : Fr h₀ L s.heap m) (N : News h₀ L s.heap news) (hv : m z = some (.str b t)) (hi : m y = some (.int i u)) (hr : fitsSsize i = true) (h1 : -(b.length : Int) ≤ i) (h2 : i < b.length)
    (h : ∀ h' t' tk', let m' : Str → Option Value := fun y => if y = x then some (.str (Txt.item b i) t') else m y; Fr h₀ L h' m' → News h₀ L h' news → Q .next { s with heap := h', toks := tk' })
    (hk : cs.kind = .function := by rfl) (hz : (envX cn cs L a ccd cl).kindOf z = some .local := by rfl) (hy : (envX cn cs L a ccd cl).kindOf y = some .local := by rfl) (hx : (envX cn cs L a ccd cl).kindOf x = some .local := by rfl)
    (hd : (z == ("__debug__" : Str)) = false := by decide) (he : (y == ("__debug__" : Str)) = false := by decide)
    (hs : swapsWith (.Subscript (.Name z p2) (.Name y p3) p4) (some (.Name x p1)) pos.line (envX cn cs L a ccd cl) = pure false := by rfl) :
    wpAny (model prog w) A (exec (.Assign [.Name x p1] (.Subscript (.Name z p2) (.Name y p3) p4) pos) (envX cn cs L a ccd cl)) Q E s := by
  refine wpAny_Assign_Name ?_ hs
  refine Subscript_ ?_
  refine nameX_L F hv ?_ hk hz hd
  refine nameX_L F hi ?_ hk hy he
  refine item_str hr h1 h2 fun _ => ?_
  exact storeX_L (s := { s with toks := s.toks + 1 }) F N (fun h' F' N' => h h' _ _ F' N') hk hx
theorem si_lt {i j : Int} {t u : Tok} {Q : Bool → Shared → Prop} (F : Fr h₀ L s.heap m) (hv : m z = some (.int i t)) (hi : m y = some (.int j u)) (h : Q (decide (i < j)) s)
    (hk : cs.kind = .function := by rfl) (hz : (envX cn cs L a ccd cl).kindOf z = some .local := by rfl) (hy : (envX cn cs L a ccd cl).kindOf y = some .local := by rfl)
    (hd : (z == ("__debug__" : Str)) = false := by decide) (he : (y == ("__debug__" : Str)) = false := by decide) :
    wpAny (model prog w) A (isTrue (.Compare (.Name z p1) [.Lt] [.Name y p2] p3) (envX cn cs L a ccd cl) whole) Q E s := by
  refine wpAny_isTrue_Compare1 ?_
  refine nameX_L F hv ?_ hk hz hd
  refine nameX_L F hi ?_ hk hy he
  exact PyProof.Rows.lt_int (wpAny_truthy_bool h)
theorem si_eq {b c : Str} {t : Tok} {Q : Bool → Shared → Prop} (F : Fr h₀ L s.heap m) (hv : m z = some (.str b t)) (h : Q (b == c) { s with toks := s.toks + 1 })
    (hk : cs.kind = .function := by rfl) (hz : (envX cn cs L a ccd cl).kindOf z = some .local := by rfl) (hd : (z == ("__debug__" : Str)) = false := by decide) :
    wpAny (model prog w) A (isTrue (.Compare (.Name z p1) [.Eq] [.Constant (.str c) kk p2] p3) (envX cn cs L a ccd cl) whole) Q E s := by
  refine wpAny_isTrue_Compare1 ?_
  refine nameX_L F hv ?_ hk hz hd
  refine Calls.Constant_str ?_
  exact PyProof.Rows.eq_str (wpAny_truthy_bool h)
theorem si_itemEq {b c : Str} {i : Int} {t u : Tok} {Q : Bool → Shared → Prop} (F : Fr h₀ L s.heap m) (hv : m z = some (.str b t)) (hi : m y = some (.int i u)) (hr : fitsSsize i = true) (h1 : -(b.length : Int) ≤ i) (h2 : i < b.length)
    (h : Q (Txt.item b i == c) { s with toks := s.toks + 1 + 1 })
    (hk : cs.kind = .function := by rfl) (hz : (envX cn cs L a ccd cl).kindOf z = some .local := by rfl) (hy : (envX cn cs L a ccd cl).kindOf y = some .local := by rfl)
    (hd : (z == ("__debug__" : Str)) = false := by decide) (he : (y == ("__debug__" : Str)) = false := by decide) :
    wpAny (model prog w) A (isTrue (.Compare (.Subscript (.Name z p1) (.Name y p2) p3) [.Eq] [.Constant (.str c) kk p4] p5) (envX cn cs L a ccd cl) whole) Q E s := by
  refine wpAny_isTrue_Compare1 ?_
  refine Subscript_ ?_
  refine nameX_L F hv ?_ hk hz hd
  refine nameX_L F hi ?_ hk hy he
  refine item_str hr h1 h2 fun _ => ?_
  refine Calls.Constant_str ?_
  exact PyProof.Rows.eq_str (wpAny_truthy_bool h)
theorem si_itemNe {b c : Str} {i : Int} {t u : Tok} {Q : Bool → Shared → Prop} (F : Fr h₀ L s.heap m) (hv : m z = some (.str b t)) (hi : m y = some (.int i u)) (hr : fitsSsize i = true) (h1 : -(b.length : Int) ≤ i) (h2 : i < b.length)
    (h : Q (Txt.item b i != c) { s with toks := s.toks + 1 + 1 })
    (hk : cs.kind = .function := by rfl) (hz : (envX cn cs L a ccd cl).kindOf z = some .local := by rfl) (hy : (envX cn cs L a ccd cl).kindOf y = some .local := by rfl)
    (hd : (z == ("__debug__" : Str)) = false := by decide) (he : (y == ("__debug__" : Str)) = false := by decide) :
    wpAny (model prog w) A (isTrue (.Compare (.Subscript (.Name z p1) (.Name y p2) p3) [.NotEq] [.Constant (.str c) kk p4] p5) (envX cn cs L a ccd cl) whole) Q E s := by
  refine wpAny_isTrue_Compare1 ?_
  refine Subscript_ ?_
  refine nameX_L F hv ?_ hk hz hd
  refine nameX_L F hi ?_ hk hy he
  refine item_str hr h1 h2 fun _ => ?_
  refine Calls.Constant_str ?_
  exact PyProof.Rows.ne_str (wpAny_truthy_bool h)
/-- f(v) as a statement, f a local bound to list.append of a list of the ledger -/
theorem si_add {mw D n : Nat} {its : Array Value} {v : Value} {news' : List (Addr × Obj)} {Q : Flow → Shared → Prop} (F : Fr h₀ L s.heap m) (N : News h₀ L s.heap news) (hv : m z = some (.ref mw)) (hm : (mw, bmObj D) ∈ news) (hi : m y = some v)
    (U : Upd D (listOf its n) (listOf (its.push v) (n + 1)) news news')
    (h : ∀ h', Fr h₀ L h' m → News h₀ L h' news' → Q .next { s with heap := h' }) (hsz : its.size ≤ sizeLine := by size_fits)
    (hk : cs.kind = .function := by rfl) (hz : (envX cn cs L a ccd cl).kindOf z = some .local := by rfl) (hy : (envX cn cs L a ccd cl).kindOf y = some .local := by rfl)
    (hd : (z == ("__debug__" : Str)) = false := by decide) (he : (y == ("__debug__" : Str)) = false := by decide) (hin : interactive (envX cn cs L a ccd cl) = false := by rfl)
    (hs : swapsWith (.Call (.Name z p1) [.Name y p2] [] p3) none pos.line (envX cn cs L a ccd cl) = pure false := by rfl) :
    wpAny (model prog w) A (exec (.Expr (.Call (.Name z p1) [.Name y p2] [] p3) pos) (envX cn cs L a ccd cl)) Q E s := by
  refine wpAny_Expr_any ?_ hin hs
  refine Call_ ?_
  refine nameX_L F hv ?_ hk hz hd
  refine callWith_bm N hm ?_
  refine args_cons ?_
  refine nameX_L F hi ?_ hk hy he
  refine args_nil ⟨N.get hm, ?_⟩
  exact bm_call F N hm U h hsz
theorem bool_use {b : Bool} {Q : Bool → Shared → Prop} {s : Shared} {M : Model} {env : Env} {E : Value → Shared → Prop} (h : Q b s) : (if b = true then wpAny M A (isTrue (.BoolOp .And [] pos) env whole) Q E s else Q false s) := by
  cases b with
  | false => exact h
  | true => exact isTrue_and_nil h
theorem si_andEq {n : Str} {b c : Str} {i j : Int} {t u v : Tok} {q1 q2 q3 : Pos} {Q : Bool → Shared → Prop} (F : Fr h₀ L s.heap m) (hv : m z = some (.str b t)) (hi : m y = some (.int i u)) (hj : m n = some (.int j v)) (hij : decide (i < j) = true) (hr : fitsSsize i = true) (h1 : -(b.length : Int) ≤ i) (h2 : i < b.length)
    (h : Q (Txt.item b i == c) { s with toks := s.toks + 1 + 1 })
    (hk : cs.kind = .function := by rfl) (hz : (envX cn cs L a ccd cl).kindOf z = some .local := by rfl) (hy : (envX cn cs L a ccd cl).kindOf y = some .local := by rfl) (hn : (envX cn cs L a ccd cl).kindOf n = some .local := by rfl)
    (hd : (z == ("__debug__" : Str)) = false := by decide) (he : (y == ("__debug__" : Str)) = false := by decide) (hf : (n == ("__debug__" : Str)) = false := by decide) :
    wpAny (model prog w) A (isTrue (.BoolOp .And [.Compare (.Name y q1) [.Lt] [.Name n q2] q3, .Compare (.Subscript (.Name z p1) (.Name y p2) p3) [.Eq] [.Constant (.str c) kk p4] p5] pos) (envX cn cs L a ccd cl) whole) Q E s := by
  refine isTrue_and (si_lt F hi hj ?_ hk hy hn he hf)
  rw [hij]
  exact isTrue_and (si_itemEq F hv hi hr h1 h2 (bool_use h) hk hz hy hd he)
theorem si_andNe {n : Str} {b c : Str} {i j : Int} {t u v : Tok} {q1 q2 q3 : Pos} {Q : Bool → Shared → Prop} (F : Fr h₀ L s.heap m) (hv : m z = some (.str b t)) (hi : m y = some (.int i u)) (hj : m n = some (.int j v)) (hij : decide (i < j) = true) (hr : fitsSsize i = true) (h1 : -(b.length : Int) ≤ i) (h2 : i < b.length)
    (h : Q (Txt.item b i != c) { s with toks := s.toks + 1 + 1 })
    (hk : cs.kind = .function := by rfl) (hz : (envX cn cs L a ccd cl).kindOf z = some .local := by rfl) (hy : (envX cn cs L a ccd cl).kindOf y = some .local := by rfl) (hn : (envX cn cs L a ccd cl).kindOf n = some .local := by rfl)
    (hd : (z == ("__debug__" : Str)) = false := by decide) (he : (y == ("__debug__" : Str)) = false := by decide) (hf : (n == ("__debug__" : Str)) = false := by decide) :
    wpAny (model prog w) A (isTrue (.BoolOp .And [.Compare (.Name y q1) [.Lt] [.Name n q2] q3, .Compare (.Subscript (.Name z p1) (.Name y p2) p3) [.NotEq] [.Constant (.str c) kk p4] p5] pos) (envX cn cs L a ccd cl) whole) Q E s := by
  refine isTrue_and (si_lt F hi hj ?_ hk hy hn he hf)
  rw [hij]
  exact isTrue_and (si_itemNe F hv hi hr h1 h2 (bool_use h) hk hz hy hd he)
theorem at_andE {env : Env} {n c : Str} {q1 q2 q3 : Pos} {M : Model} {Q : Bool → Shared → Prop} (h : wpAny M A (isTrue (.BoolOp .And [.Compare (.Name y q1) [.Lt] [.Name n q2] q3, .Compare (.Subscript (.Name z p1) (.Name y p2) p3) [.Eq] [.Constant (.str c) kk p4] p5] pos) env whole) Q E s) : wpAny M A (isTrue (.BoolOp .And [.Compare (.Name y q1) [.Lt] [.Name n q2] q3, .Compare (.Subscript (.Name z p1) (.Name y p2) p3) [.Eq] [.Constant (.str c) kk p4] p5] pos) env whole) Q E s := h
theorem at_andN {env : Env} {n c : Str} {q1 q2 q3 : Pos} {M : Model} {Q : Bool → Shared → Prop} (h : wpAny M A (isTrue (.BoolOp .And [.Compare (.Name y q1) [.Lt] [.Name n q2] q3, .Compare (.Subscript (.Name z p1) (.Name y p2) p3) [.NotEq] [.Constant (.str c) kk p4] p5] pos) env whole) Q E s) : wpAny M A (isTrue (.BoolOp .And [.Compare (.Name y q1) [.Lt] [.Name n q2] q3, .Compare (.Subscript (.Name z p1) (.Name y p2) p3) [.NotEq] [.Constant (.str c) kk p4] p5] pos) env whole) Q E s := h
theorem at_ifE {env : Env} {c : Str} {body orelse : List Stmt} {M : Model} {Q : Flow → Shared → Prop} (h : wpAny M A (exec (.If (.Compare (.Name z p1) [.Eq] [.Constant (.str c) kk p2] p3) body orelse pos) env) Q E s) : wpAny M A (exec (.If (.Compare (.Name z p1) [.Eq] [.Constant (.str c) kk p2] p3) body orelse pos) env) Q E s := h
theorem si_ifT {b c : Str} {t : Tok} {body orelse : List Stmt} {Q : Flow → Shared → Prop} (F : Fr h₀ L s.heap m) (hv : m z = some (.str b t)) (hb : (b == c) = true) (h : wpAny (model prog w) A (execs body (envX cn cs L a ccd cl)) Q E { s with toks := s.toks + 1 })
    (hk : cs.kind = .function := by rfl) (hz : (envX cn cs L a ccd cl).kindOf z = some .local := by rfl) (hd : (z == ("__debug__" : Str)) = false := by decide) :
    wpAny (model prog w) A (exec (.If (.Compare (.Name z p1) [.Eq] [.Constant (.str c) kk p2] p3) body orelse pos) (envX cn cs L a ccd cl)) Q E s :=
  wpAny_If (si_eq F hv (by rw [hb]; exact h) hk hz hd)
theorem si_ifF {b c : Str} {t : Tok} {body orelse : List Stmt} {Q : Flow → Shared → Prop} (F : Fr h₀ L s.heap m) (hv : m z = some (.str b t)) (hb : (b == c) = false) (h : wpAny (model prog w) A (execs orelse (envX cn cs L a ccd cl)) Q E { s with toks := s.toks + 1 })
    (hk : cs.kind = .function := by rfl) (hz : (envX cn cs L a ccd cl).kindOf z = some .local := by rfl) (hd : (z == ("__debug__" : Str)) = false := by decide) :
    wpAny (model prog w) A (exec (.If (.Compare (.Name z p1) [.Eq] [.Constant (.str c) kk p2] p3) body orelse pos) (envX cn cs L a ccd cl)) Q E s :=
  wpAny_If (si_eq F hv (by rw [hb]; exact h) hk hz hd)
theorem execs_consG {M : Model} {env : Env} {st : Stmt} {rest : List Stmt} {Q : Flow → Shared → Prop} {hp : Heap} {g : Array GenState} {d : Drawn} {o : OsState} {lo tk0 k : Nat} (hT : TokLo lo tk0) (hle : lo < k)
    (h : ∀ tk, TokLo lo tk → wpAny M A (exec st env) (fun f s' => TokLo lo s'.toks → (match f with | .next => wpAny M A (execs rest env) Q E s' | f => Q f s')) E ⟨hp, g, d, tk, o⟩) : wpAny M A (execs (st :: rest) env) Q E ⟨hp, g, d, k, o⟩ :=
  wpAny_execs_cons (toks_useQ (wpAny_mono (h k ⟨hT.1, hle⟩) (fun _ _ z q => z ⟨hT.1, Nat.lt_of_lt_of_le hle q⟩) fun _ _ z => z))
end
end Mine
end
local macro_rules | `(tactic| walk_at "i4") => `(tactic| (intro x' h' F' N' l1; (try k_lt l1); (try k_sweep)))
local macro_rules | `(tactic| walk_at "i3") => `(tactic| (intro h' F' N'; (try k_sweep)))
local macro_rules | `(tactic| walk_at "u_enter") => `(tactic| (refine' Mine.code_defU ?k1 ?k2 ?k3 ?k4 ?k5 ?kA ?kF ?kK ?k6 ?k7 ?k8 ?k9 ?kB ?_ ?c2 ?c3 ?c4 ?c5; (case kA => exact rfl); (case kF => exact rfl); (case kK => assumption); (case k1 => k_asm); (case k2 => k_asm); (case k3 => k_asm); (case k4 => k_asm); (case k5 => k_asm); (case k6 => k_is); (case k7 => k_is); (case k8 => ktr_room); (case k9 => first | exact PySem.BindsTo.of_eq rfl | exact PySem.W.binds_K (by k_in) rfl (by k_is) rfl rfl rfl); (case c5 => decide); (case kB => exact PyProof.Rows.locs rfl); (case c2 => exact rfl); (case c3 => exact rfl); (case c4 => exact rfl); k_whole; intro g' L' h' FG' F' N' B' X' T'; (try dsimp only); (try k_fold)))
local macro_rules | `(tactic| walk_at "call builtin:iter") => `(tactic| (k_here; with_reducible refine Mine.at_b "iter" ?_; k_dflt (refine Mine.iter_N (by k_asm) (by k_asm) (by k_mem) ?_); walk_at "i4"))
set_option hygiene false
local macro_rules | `(tactic| k_room) => `(tactic| ktr_room)
set_option hygiene true
set_option hygiene false
local macro_rules | `(tactic| k_all) => `(tactic| first | assumption | (refine Mine.allLt_ne ?_; first | assumption | exact PySem.W.allLt_of (by assumption) | exact Mine.allLt_trans (PySem.W.allLt_of (by assumption)) (by omega) | exact Mine.aa1 (by assumption) | exact Mine.aa2 (by assumption) | exact Mine.aa3 (by assumption) | exact Mine.aa4 (by assumption) | exact Mine.aa5 (by assumption) | exact Mine.aa6 (by assumption) | exact Mine.aa7 (by assumption) | exact Mine.aa8 (by assumption) | exact Mine.aa9 (by assumption) | exact Mine.aa10 (by assumption) | exact Mine.aa11 (by assumption) | exact Mine.aa12 (by assumption) | exact Mine.aa13 (by assumption) | exact Mine.aa14 (by assumption)) | exact Mine.an1 (by assumption) (by omega) | exact Mine.an2 (by assumption) (by omega) | exact Mine.an3 (by assumption) (by omega) | exact Mine.an4 (by assumption) (by omega) | exact Mine.an5 (by assumption) (by omega) | exact Mine.an6 (by assumption) (by omega) | exact Mine.an7 (by assumption) (by omega) | exact Mine.an8 (by assumption) (by omega) | exact Mine.an9 (by assumption) (by omega))
set_option hygiene true
set_option hygiene false
local macro_rules | `(tactic| walk_at "lt") => `(tactic| first | with_reducible assumption | exact Mine.ab0 (by with_reducible assumption) | exact Mine.ab1 (by with_reducible assumption) | exact Mine.ab2 (by with_reducible assumption) | exact Mine.ab3 (by with_reducible assumption) | exact Mine.ab4 (by with_reducible assumption) | exact Mine.ab5 (by with_reducible assumption) | exact Mine.ab6 (by with_reducible assumption) | exact Mine.ab7 (by with_reducible assumption))
local macro_rules | `(tactic| k_ne) => `(tactic| (refine Mine.neG ?_; (try dsimp only); first | exact Nat.ne_of_gt (by walk_at "lt") | exact Nat.ne_of_lt (by walk_at "lt") | omega))
set_option hygiene true
set_option hygiene false
local macro_rules | `(tactic| walk_at "LeaveU") => `(tactic| (refine Mine.Stp.of ?_))
set_option hygiene true
section
example : Mine.Stp True := by first | (walk1; fail) | (w_top off; exact Mine.Stp.to trivial)
open PySem PySem.W PySem.Spec PySem.Calls PyProof.Rows Mine
set_option maxRecDepth 100000
set_option maxHeartbeats 8000000
local macro_rules | `(tactic| walk_at "call type:list") => `(tactic| (refine Stp.of ?_))
local macro_rules | `(tactic| walk_at "getAttr ref") => `(tactic| (k_here; with_reducible refine at_ga "__contains__" ?_; k_dflt (refine getc_N (by k_asm) (by k_asm) (by k_mem) ?_); walk_at "i4"))
local macro_rules | `(tactic| walk_at "setAttr ref") => `(tactic| (k_here; k_dflt (refine set_slot (by k_asm) (by k_asm) (by k_asm) (by k_inst) (by k_is) (by k_is) (by k_is) (by k_is) (by k_is) (by decide) (by k_slotset) (by rfl) (by k_upd) ?_; walk_at "i3")))
namespace Mine
theorem ffLed_perm {h₀ h' : Heap} {L : Addr} {x dx mw it l1 l2 n1 n2 : Nat} {ito : Obj} {v1 v2 : List Value} {news : List (Addr × Obj)} (N : News h₀ L h' ((it, ito) :: (x, ffObj dx mw it) :: (dx, emptyDict) :: (mw, mwObj l2) :: (l1, listOf v1.toArray n1) :: (l2, listOf v2.toArray n2) :: news)) :
    News h₀ L h' (ffLed x dx mw it ito l1 l2 v1 v2 n1 n2 news) := n_in3 N
theorem filter_u (w : World) (news : List (Addr × Obj)) (l1 l2 : Nat) (v1 v2 : List Value) (x1 x2 : List Str) (h1 : StrsAre v1 x1) (h2 : StrsAre v2 x2) (n1 n2 : Nat)
   (p : Program) (loose : List Str) (mean : ExcName → Option Value) (mg mb : Str → Option Value) (dp un : Nat) (gd : Option (List Code)) (cn : Str) (cs : Scope) (a : Addr) (ccd : Value) (cl : List (Str × Addr)) (outer : List Env) (A₀ : Around) (base h₀ : Heap) (L : Addr) (m : Str → Option Value) (s : Shared) (Q E : Value → Shared → Prop)
    (C : Cx w p loose mean mg mb cs A₀ base outer h₀) (F : Fr h₀ L s.heap m)
    (N : News h₀ L s.heap ((l1, listOf v1.toArray n1) :: (l2, listOf v2.toArray n2) :: news))
    (hdp : dp + 10 < recursionLimit) (hu : un + 100 < cLine) (hfit : x1.length ≤ 1000)
    (hret : ∀ (S : Nat) vs c' h₀₂ h' tk', (∀ p ∈ (l1, listOf v1.toArray n1) :: (l2, listOf v2.toArray n2) :: news, p.1 < S) → StrsAre vs (without x1 x2) → Reb (frs outer) h₀ h₀₂ → Fr h₀₂ L h' m →
      News h₀₂ L h' ((S, listOf vs.toArray c') :: (l1, listOf v1.toArray n1) :: (l2, listOf v2.toArray n2) :: news) → Q (.ref S) { s with heap := h', toks := tk' }) :
    wpAny (model PR w) (ktrTop dp un gd cn cs L a ccd cl outer) (call (.ref 91) [.ref l1, .ref l2]) Q E s := by
  have B := C.B
  have hk := C.hk
  have T := C.T
  have X := C.X
  have XB := C.XB
  unfold PR
  revert X XB; k_fill; intro X XB
  refine wpAny_call ?_
  k_dflt walk_at "u_enter"
  rename Below (ktrTop dp un gd cn cs L a ccd cl outer) _ _ _ => BG
  k_steps
  refine Stp.to ?_
  rename Fr _ _ _ _ => F3
  rename News _ _ _ _ => N3
  refine list_ff w news _ _ _ _ l1 l2 v1 v2 x1 x2 h1 h2 n1 n2 p loose mean mg mb (dp + 1) (un + 3) _ _ _ _ _ [] (envX cn cs L a ccd cl :: outer) (ktrTop dp un gd cn cs L a ccd cl outer) base _ _ _ _ _ _ ⟨BG, XB, C.TB, ?_⟩ F3 (ffLed_perm N3) (by omega) (by omega) ?_ hfit ?_
  · rfl
  · refine ⟨?_, ?_, ?_, ?_, ?_, ?_⟩
    · exact fun e => by omega
    · exact fun e => by omega
    · exact fun e => by omega
    · exact fun e => by omega
    · exact fun e => by omega
    · k_all
  · intro S j acc' c' h₀₂ h' tk' hlt ha Rb F4 N4
    refine (show LeaveU outer h₀ L m _ _ _ _ from ⟨h₀₂, _, _, _, Rb, F4, N4, fun h₀₃ R5 F5 N5 => ?_⟩)
    show Q (.ref S) _
    exact hret S acc'.toList c' h₀₃ _ _ (fun q hq => hlt q (by
      rcases List.mem_cons.mp hq with rfl | hq
      · exact .tail _ (.tail _ (.tail _ (.tail _ (.head _))))
      · exact .tail _ (.tail _ (.tail _ (.tail _ (.tail _ hq)))))) ha R5 F5 (List.forall_mem_cons.mpr ⟨N5 _ (.head _), fun q hq => N5 q (.tail _ (.tail _ (.tail _ (.tail _ (.tail _ hq)))))⟩)
end Mine
end
section
open PySem PySem.W PySem.Spec PySem.Calls PyProof.Rows Mine
set_option maxRecDepth 100000
set_option maxHeartbeats 8000000
namespace Mine
section
variable {prog : Program} {w : World} {A : Around} {E : Value → Shared → Prop} {s : Shared} {d : Addr} {f : Int → Option Value}
theorem sub_kl : isSubtype (.type "KeyError") (.type "LookupError") = pure true := by rw [isSubtype_type]; kernel_rfl
theorem tl_keep {c : Nat} {Q : Builtin.Str.Mapped → Shared → Prop} (hm : s.heap.MapOf (intKind prog w) d f) (hd : (d == sysModules) = false) (hh : A.handled = none) (hv : f (c : Int) = none)
    (h : ∀ h', (∀ b o, s.heap.get? b = some o → h'.get? b = some o) → Q .keep { s with heap := h', toks := s.toks + 1 + 1 }) : wpAny (model prog w) A (Builtin.Str.tableLookup (.ref d) c) Q E s := by
  unfold Builtin.Str.tableLookup
  refine wpAny_bind (wpAny_attempt (wpAny_bind (wpAny_mkInt ?_)))
  refine wpAny_getItem_missing_of (knd := intKind prog w) (k := (c : Int)) (f := f) (by simp [intKind, Value.isInt]) hd hh hm hv fun h' e hx => ?_
  obtain ⟨ob, t, h1, h2, h3⟩ := hx.there
  dsimp only
  refine wpAny_bind (wpAny_isInstance ⟨ob, h1, h2⟩ sub_kl ?_)
  rw [if_pos rfl]
  exact wpAny_bind (wpAny_rule (wpAny_pure (h _ hx.keeps)))
theorem tl_text {c : Nat} {t : Str} {tk : Tok} {Q : Builtin.Str.Mapped → Shared → Prop} (hm : s.heap.MapOf (intKind prog w) d f) (hv : f (c : Int) = some (.str t tk))
    (h : Q (.text t) { s with toks := s.toks + 1 + 1 }) : wpAny (model prog w) A (Builtin.Str.tableLookup (.ref d) c) Q E s := by
  unfold Builtin.Str.tableLookup
  refine wpAny_bind (wpAny_attempt (wpAny_bind (wpAny_mkInt ?_)))
  refine wpAny_getItem_of (knd := intKind prog w) (k := (c : Int)) (f := f) (by simp [intKind, Value.isInt]) hm hv ?_
  dsimp only
  repeat (any_goals (first | (with_reducible assumption) | wp_step))

theorem tr_keep {c : Nat} {t : Tok} {x : Str} {Q : Value → Shared → Prop} (hx : x = ⟨#[c]⟩) (hc : c < 128) (hm : s.heap.MapOf (intKind prog w) d f) (hd : (d == sysModules) = false) (hh : A.handled = none) (hv : f (c : Int) = none)
    (h : ∀ h' u, s.toks ≤ u → (∀ b o, s.heap.get? b = some o → h'.get? b = some o) → Q (.str x u) { s with heap := h', toks := u + 1 }) :
    wpAny (model prog w) A (call (.builtin "str.translate") [.str x t, .ref d]) Q E s := by
  subst hx
  refine wpAny_call_entry F.slot_str_translate (typeIs_str _ _ _) F.entry_str_translate ?_ (F.args_str_translate_2 _ _)
  unfold Builtin.«str.translate»
  refine wpAny_bind (wpAny_of_eq (a := (.str ⟨#[c]⟩ t, ⟨#[c]⟩, .ref d)) (by kernel_rfl) ?_)
  have hall : (#[c].all fun x => decide (x < 128)) = true := by simp [hc]
  have hlen : ((⟨#[c]⟩ : Str).length == 0) = false := rfl
  simp only [hall, hlen, Bool.false_eq_true, if_false]
  have e : (#[c] : Array Nat) = [c].toArray := rfl
  rw [e, List.forIn_toArray, List.forIn_cons]
  have t0 : Builtin.Str.tooLong 0 = false := by decide +kernel
  have t1 : Builtin.Str.tooLong 1 = false := by decide +kernel
  simp only [t0, t1, Bool.false_eq_true, if_false, if_true, List.lookup, List.forIn_nil]
  repeat (any_goals (first | (with_reducible assumption) | ((with_reducible show wpAny _ _ (Builtin.Str.tableLookup _ _) _ _ _); refine tl_keep hm hd hh hv fun h' hk => Stp.of ?_) | wp_step))
  refine Stp.to ?_
  dsimp only
  repeat (any_goals (first | (with_reducible assumption) | wp_step))
  exact ⟨_, rfl, h h' (s.toks + 1 + 1) (by omega) hk⟩

theorem tr_text {c : Nat} {t tk : Tok} {x y : Str} {Q : Value → Shared → Prop} (hx : x = ⟨#[c]⟩) (hc : c < 128) (hm : s.heap.MapOf (intKind prog w) d f) (hv : f (c : Int) = some (.str y tk)) (hy : y.length = 2)
    (h : ∀ u, s.toks ≤ u → Q (.str y u) { s with toks := u + 1 }) :
    wpAny (model prog w) A (call (.builtin "str.translate") [.str x t, .ref d]) Q E s := by
  subst hx
  refine wpAny_call_entry F.slot_str_translate (typeIs_str _ _ _) F.entry_str_translate ?_ (F.args_str_translate_2 _ _)
  unfold Builtin.«str.translate»
  refine wpAny_bind (wpAny_of_eq (a := (.str ⟨#[c]⟩ t, ⟨#[c]⟩, .ref d)) (by kernel_rfl) ?_)
  dsimp only
  have hall : (#[c].all fun x => decide (x < 128)) = true := by simp [hc]
  have hlen : ((⟨#[c]⟩ : Str).length == 0) = false := rfl
  simp only [hall, hlen, Bool.false_eq_true, if_false]
  have e : (#[c] : Array Nat) = [c].toArray := rfl
  rw [e, List.forIn_toArray, List.forIn_cons]
  have t0 : Builtin.Str.tooLong 0 = false := by decide +kernel
  have t2 : Builtin.Str.tooLong (0 + 2) = false := by decide +kernel
  have y1 : (y.length == 1) = false := by rw [hy]; rfl
  simp only [t0, Bool.false_eq_true, if_false, if_true, List.lookup, List.forIn_nil]
  have hmk : ∀ tk', ({ s with toks := tk' } : Shared).heap.MapOf (intKind prog w) d f := fun _ => hm
  repeat (any_goals (first | (with_reducible assumption) | ((with_reducible show wpAny _ _ (Builtin.Str.tableLookup _ _) _ _ _); refine tl_text hm hv (Stp.of ?_)) | wp_step))
  refine Stp.to ?_
  simp only [y1, Bool.false_and, Bool.false_eq_true, if_false]
  repeat (any_goals (first | (with_reducible assumption) | ((with_reducible show wpAny _ _ (Builtin.Str.tableLookup _ _) _ _ _); refine tl_text (s := { s with toks := _ }) hm hv (Stp.of ?_)) | wp_step))
  refine Stp.to ?_
  dsimp only
  simp only [hy, t2, Bool.false_eq_true, if_false]
  repeat (any_goals (first | (with_reducible assumption) | wp_step))
  have ey : (⟨List.foldl (fun acc (p : Str) => acc ++ p.cps) #[] ([y], 0 + 2, false, ([] : List (Nat × Option Nat)), false).fst.reverse⟩ : Str) = y := by simp
  have big := big_size
  rw [ey, if_neg (by omega)]
  repeat (any_goals (first | (with_reducible assumption) | wp_step))
  exact ⟨_, rfl, h (s.toks + 1 + 1 + 1 + 1) (by omega)⟩
end
theorem keysOf_ints {prog : Program} {w : World} {es : Array DictEntry} (h : (es.toList.all fun e => match e.key with | .int i _ => e.hash == (intKind prog w).hash i | _ => false) = true) : KeysOf (intKind prog w) es := by
  intro e he
  have := List.all_eq_true.mp h e (Array.mem_def.mp he)
  split at this
  · rename_i i t hk
    exact ⟨i, by rw [hk]; simp [intKind, Value.isInt], beq_iff_eq.mp this⟩
  · cases this
theorem map98 (w : World) {h : Heap} (X : (hd.heap_1 w.params).In h) : ∃ f, h.MapOf (intKind PR w) 98 f ∧ f ((97 : Nat) : Int) = none ∧ f ((111 : Nat) : Int) = none ∧ f ((103 : Nat) : Int) = none ∧ ∃ tk, f ((46 : Nat) : Int) = some (.str (Str.ofString "\\.") tk) := by
  refine ⟨_, ⟨_, _, _, X 98 _ rfl, ⟨rfl, rfl, rfl⟩, rfl, keysOf_ints (by rfl), fun _ => rfl⟩, ?_, ?_, ?_, ?_⟩
  · rfl
  · rfl
  · rfl
  · exact ⟨_, rfl⟩

/-- what escape gives back for one letter -/
noncomputable def esc (x : Str) : Str := if x = Str.ofString "." then Str.ofString "\\." else x
noncomputable def plainCh (x : Str) : Prop := x = Str.ofString "a" ∨ x = Str.ofString "o" ∨ x = Str.ofString "g" ∨ x = Str.ofString "."
section
variable {w : World} {A : Around} {E : Value → Shared → Prop} {s : Shared} {h₀ : Heap} {L : Addr} {m : Str → Option Value} {news : List (Addr × Obj)}
theorem tr_N {x : Str} {t : Tok} {Q : Value → Shared → Prop} (hx : plainCh x) (hh : A.handled = none) (FR : Fr h₀ L s.heap m) (X : (hd.heap_1 w.params).In h₀) (N : News h₀ L s.heap news)
    (h : ∀ h' u, s.toks ≤ u → Fr h₀ L h' m → News h₀ L h' news → Q (.str (esc x) u) { s with heap := h', toks := u + 1 }) :
    wpAny (model PR w) A (call (.builtin "str.translate") [.str x t, .ref 98]) Q E s := by
  obtain ⟨f, hm, fa, fo, fg, tk, fd⟩ := map98 w (X.keeps FR.keep)
  have k : ∀ h' u, s.toks ≤ u → (∀ b o, s.heap.get? b = some o → h'.get? b = some o) → Q (.str (esc x) u) { s with heap := h', toks := u + 1 } := fun h' u hu hk => by
    obtain ⟨⟨oL, e1, e2, e3, e4⟩, e5, e6⟩ := FR
    exact h h' u hu ⟨⟨oL, e1, e2, hk _ _ e3, e4⟩, fun b o e => hk _ _ (e5 b o e), e6⟩ fun p hp => ⟨hk _ _ (N p hp).1, (N p hp).2⟩
  rcases hx with rfl | rfl | rfl | rfl
  · exact tr_keep (c := 97) rfl (by omega) hm (by decide) hh fa k
  · exact tr_keep (c := 111) rfl (by omega) hm (by decide) hh fo k
  · exact tr_keep (c := 103) rfl (by omega) hm (by decide) hh fg k
  · exact tr_text (c := 46) rfl (by omega) hm fd rfl fun u hu => k _ u hu fun _ _ e => e
theorem truthy_N {prog : Program} {a n : Nat} {xs : Array Value} {b : Bool} {Q : Bool → Shared → Prop} (N : News h₀ L s.heap news) (hm : (a, listOf xs n) ∈ news) (hs : Nat.blt xs.size 1000 = true) (hb : (!xs.isEmpty) = b) (h : Q b { s with toks := s.toks + 1 + 1 }) :
    wpAny (model prog w) A (truthy (.ref a)) Q E s := by
  subst hb
  have h1 : xs.size < 1000 := by simpa [Nat.blt_eq] using hs
  exact wpAny_truthy_list (items := xs) ⟨_, N.get hm, rfl, n, rfl⟩ (by omega) h
theorem isNot_str {prog : Program} {x y : Str} {t u : Tok} {Q : Value → Shared → Prop} (hT : TokLo u t) (hxy : (x == y) = false) (h : Q (.bool true) s) : wpAny (model prog w) A (compareOp .IsNot (.str x t) (.str y u)) Q E s := by
  show wpAny _ _ (isSame (.str x t) (.str y u) >>= fun b => pure (Value.bool (!b))) _ _ _
  refine wpAny_bind ?_
  unfold isSame
  simp only [hxy]
  have h1 : (t == 0) = false := beq_eq_false_iff_ne.mpr (Nat.ne_of_gt (Nat.lt_trans hT.1 hT.2))
  have h2 : (u == 0) = false := beq_eq_false_iff_ne.mpr (Nat.ne_of_gt hT.1)
  have h3 : (t == u) = false := beq_eq_false_iff_ne.mpr (Nat.ne_of_gt hT.2)
  unfold isSame.created
  simp only [h1, h2, h3, Bool.or_false, Bool.false_eq_true, if_false, Bool.not_false, if_true]
  exact wpAny_pure (wpAny_pure h)
theorem tr_end {Q : Value → Shared → Prop} {xs : Array Value} {parts : List Str} {l n : Nat} {h' : Heap} {tk' : Nat} {e1 e2 : Addr × Obj} (hret : ∀ (l : Nat) vs n h' tk', StrsAre vs parts → (∀ p ∈ news, p.1 < l) → Fr h₀ L h' m → News h₀ L h' ((l, listOf vs.toArray n) :: news) → Q (.ref l) { s with heap := h', toks := tk' })
    (F : Fr h₀ L h' m) (N : News h₀ L h' (e1 :: e2 :: (l, listOf xs n) :: news)) (hs : StrsAre xs.toList parts) (hl : AllLt l news) : Q (.ref l) { s with heap := h', toks := tk' } := by
  refine hret l xs.toList n h' tk' hs (allLt_lt hl) F fun q hq => N q ?_
  rw [Array.toArray_toList] at hq
  exact .tail _ (.tail _ hq)
theorem gen_toks {α : Type} {M : Model} {t : Sem α} {Q : α → Shared → Prop} {hp : Heap} {g : Array GenState} {d : Drawn} {o : OsState} {lo tk0 k : Nat} (hT : TokLo lo tk0) (hle : lo < k) (h : ∀ tk, TokLo lo tk → wpAny M A t Q E ⟨hp, g, d, tk, o⟩) : wpAny M A t Q E ⟨hp, g, d, k, o⟩ := h k ⟨hT.1, hle⟩
theorem tr_Y {x y : Str} {t : Tok} {lo tk0 : Nat} {Q : Value → Shared → Prop} (hx : (x = Str.ofString "a" ∧ y = Str.ofString "a") ∨ (x = Str.ofString "o" ∧ y = Str.ofString "o") ∨ (x = Str.ofString "g" ∧ y = Str.ofString "g") ∨ (x = Str.ofString "." ∧ y = Str.ofString "\\.")) (hT : TokLo lo tk0) (hle : lo < s.toks) (hh : A.handled = none) (FR : Fr h₀ L s.heap m) (X : (hd.heap_1 w.params).In h₀) (N : News h₀ L s.heap news)
    (h : ∀ h' u, TokLo lo u → TokLo lo (u + 1) → Fr h₀ L h' m → News h₀ L h' news → Q (.str y u) { s with heap := h', toks := u + 1 }) :
    wpAny (model PR w) A (call (.builtin "str.translate") [.str x t, .ref 98]) Q E s := by
  have e : esc x = y ∧ plainCh x := by
    rcases hx with ⟨rfl, rfl⟩ | ⟨rfl, rfl⟩ | ⟨rfl, rfl⟩ | ⟨rfl, rfl⟩
    · exact ⟨rfl, .inl rfl⟩
    · exact ⟨rfl, .inr (.inl rfl)⟩
    · exact ⟨rfl, .inr (.inr (.inl rfl))⟩
    · exact ⟨rfl, .inr (.inr (.inr rfl))⟩
  obtain ⟨rfl, hp⟩ := e
  exact tr_N hp hh FR X N fun h' u hu => h h' u ⟨hT.1, by omega⟩ ⟨hT.1, by omega⟩
end
theorem gm_translate {prog : Program} {w : World} {A : Around} {E : Value → Shared → Prop} {s : Shared} {x : Str} {t : Tok} {b : Sem Bool} {Q : Value × List Value → Shared → Prop} (h : Q (.builtin "str.translate", [.str x t]) s) : wpAny (model prog w) A (getMethod (.str x t) (Str.ofString "translate") b) Q E s :=
  getMethod_builtin (typeIs_str _ _ _) PySem.F.plainAttrs_str PySem.F.slot_str_translate PySem.F.type_str_translate (fun _ e => nomatch e) h
end Mine
end
section
open PySem PySem.W PySem.Spec PySem.Calls PyProof.Rows Mine
set_option maxRecDepth 100000
set_option maxHeartbeats 8000000
namespace Mine
section
variable {prog : Program} {w : World} {A : Around} {E : Value → Shared → Prop} {s : Shared} {Q : Value → Shared → Prop}
theorem in_strB {x y : Str} {t u : Tok} (b : Bool) (hb : (!(Builtin.Str.occurrences x y 0 x.length 1).isEmpty) = b) (h : Q (.bool b) s) : wpAny (model prog w) A (compareOp .In (.str y u) (.str x t)) Q E s := PyProof.Rows.in_str (by rw [hb]; exact h)
theorem notIn_strB {x y : Str} {t u : Tok} (b : Bool) (hb : (!(!(Builtin.Str.occurrences x y 0 x.length 1).isEmpty)) = b) (h : Q (.bool b) s) : wpAny (model prog w) A (compareOp .NotIn (.str y u) (.str x t)) Q E s := PyProof.Rows.notIn_str (by rw [hb]; exact h)
theorem replaceT {x y z : Str} {t u v : Tok} (hr : ((Builtin.Str.occurrences x y 0 x.length (x.length + 1)).isEmpty || (y.length == 0 && z.length == 0)) = true)
    (hq : Q (.str x t) s) : wpAny (model prog w) A (call (.builtin "str.replace") [.str x t, .str y u, .str z v]) Q E s := by
  refine wpAny_call_entry F.slot_str_replace (typeIs_str _ _ _) F.entry_str_replace ?_ (F.args_str_replace_3 _ _ _)
  show wpAny _ _ (if ((Builtin.Str.occurrences x y 0 x.length (x.length + 1)).isEmpty || (y.length == 0 && z.length == 0)) = true then (do rule "str.replace.nothing"; ret (.str x t)) else
          (do let same ← isSame (.str y u) (.str z v)
              if same = true then (do rule "str.replace.old-is-new"; ret (.str x t)) else
              if Builtin.Str.tooLong (x.length + (Builtin.Str.occurrences x y 0 x.length (x.length + 1)).length * z.length) = true then unsupported "str.replace:memory" else
              retStr (Builtin.Str.glued z (Builtin.Str.partsBetween x (Builtin.Str.occurrences x y 0 x.length (x.length + 1)) y.length)))) _ _ _
  rw [if_pos hr]
  exact wpAny_bind (wpAny_rule (wpAny_pure ⟨_, rfl, hq⟩))
end
end Mine
end
section
open PySem PySem.W PySem.Spec PySem.Calls PyProof.Rows Mine
set_option maxRecDepth 100000
set_option maxHeartbeats 8000000
namespace Mine
theorem re_attrs : PlainAttrs "re.Pattern" :=
  ⟨⟨"object.__getattribute__", by rw [typeLookup_type, builtinLookup_eq_fast]; kernel_rfl, by decide +kernel⟩, by rw [typeLookup_type, builtinLookup_eq_fast]; kernel_rfl⟩
theorem re_slot_sub : Slot "re.Pattern" "sub" "re.Pattern.sub" :=
  .of (owner := "re.Pattern") (n := "sub") (by rw [typeLookup_type, builtinLookup_eq_fast]; kernel_rfl) (by decide +kernel) (by decide +kernel) (by decide +kernel)
    (by first | exact .inl (by decide +kernel) | exact .inr (by decide +kernel)) (by rw [isSubtype_type]; kernel_rfl)
theorem re_type_sub : typeOf (.builtin "re.Pattern.sub") = pure (.type "method_descriptor") := by show builtinType _ = _; rw [builtinType_eq_fast]; kernel_rfl
theorem re_entry_sub : entryFor table "re.Pattern.sub" = some Builtin.«re.Pattern.sub» := entryFor_of_tree (by kernel_rfl)
theorem re_entry_loop : entryFor table "re.Pattern.sub.loop" = some Builtin.«re.Pattern.sub.loop» := entryFor_of_tree (by kernel_rfl)
theorem re_plain_loop : plainId "re.Pattern.sub.loop" = true := by decide +kernel
theorem re_args_sub (a b c : Value) : argsOk "re.Pattern.sub" ⟨[a, b, c], []⟩ := by unfold argsOk; kernel_rfl
theorem fn_call : typeLookup (.type "function") "__call__" = pure (some (.builtin "function.__call__")) := by rw [typeLookup_type, builtinLookup_eq_fast]; kernel_rfl
theorem sub_sba : isSubtype (.type "str") (.type "bytearray") = pure false := by rw [isSubtype_type]; kernel_rfl
open PySem.Builtin.Re in
theorem sub_first {w : World} {A : Around} {E : Value → Shared → Prop} {s : Shared} {Q : Value → Shared → Prop} {fn : Addr} {fo : Obj} {x : Str} {t : Tok} (X : (hd.heap_1 w.params).In s.heap) (hf : s.heap.get? fn = some fo) (hc : fo.cls = .type "function")
   (T : ReTarget) (hT : Looks (model PR w) s.heap (reWholeTarget (.ref 96) (.str x t)) T)
   (h : wpAny (model PR w) A.in1 (newList []) (fun l s₁ => codeAny (model PR w) A (.builtin "re.Pattern.sub.loop" ⟨[.ref 96, .str x t, .ref fn, rawInt 1, rawInt 0, rawInt 0, rawInt 0, rawInt 0, .bool false, l, .bool false], []⟩) (wants Q E) s₁) E s) :
   wpAny (model PR w) A (call (.builtin "re.Pattern.sub") [.ref 96, .ref fn, .str x t]) Q E s := by
  have h96 : s.TypeIs (.ref 96) "re.Pattern" := ⟨_, X 96 _ rfl, rfl⟩
  have hfn : s.TypeIs (.ref fn) "function" := ⟨fo, hf, hc⟩
  refine wpAny_call (codeAny_call_builtin re_slot_sub.plain re_entry_sub (re_slot_sub.check _ _ _ _ _ _ _ _ h96 (re_args_sub _ _ _) ?_))
  show wpAny _ _ (reSubstitute "re.Pattern.sub" "sub" false ⟨[.ref 96, .ref fn, .str x t], []⟩) _ _ _
  unfold reSubstitute
  dsimp only
  refine wpAny_bind (wpAny_of_eq (a := [some (.ref fn), some (.str x t), none]) (by first | rfl | kernel_rfl) ?_)
  dsimp only
  refine wpAny_bind (wpAny_of_eq (a := 0) rfl ?_)
  refine wpAny_bind (wpAny_specialOf hfn fn_call ?_)
  simp only [Option.isSome_some, if_true]
  refine wpAny_bind (wpAny_of_eq (a := false) rfl ?_)
  refine wpAny_bind (wpAny_of_eq (a := (.ref fn, 1)) rfl ?_)
  dsimp only
  refine wpAny_bind (wpAny_holding (hT.here ?_))
  simp only [beq_self_eq_true, if_true]
  refine wpAny_bind (m := reNotHeld _ _) ?_
  unfold reNotHeld
  refine wpAny_bind (wpAny_isInstance (typeIs_str _ _ _) sub_sba ?_)
  simp only [Bool.false_eq_true, if_false]
  refine wpAny_pure ?_
  refine wpAny_bind (wpAny_mono h (fun l s₁ h₁ => wpAny_pure ⟨plainId_quiet (by decide +kernel) _, h₁⟩) fun _ _ z => z)

theorem join1 {prog : Program} {w : World} {A : Around} {E : Value → Shared → Prop} {s : Shared} {Q : Value → Shared → Prop} {sep x : Str} {t u : Tok} {l k : Nat} (hl : s.heap.get? l = some (listOf #[.str x u] k)) (h : Q (.str x u) s) :
    wpAny (model prog w) A (call (.builtin "str.join") [.str sep t, .ref l]) Q E s := by
  refine wpAny_call_entry F.slot_str_join (typeIs_str _ _ _) F.entry_str_join ?_ (F.args_str_join_2 _ _)
  unfold Builtin.«str.join»
  refine wpAny_bind (wpAny_of_eq (a := (.str sep t, sep, .ref l)) (by first | rfl | kernel_rfl) ?_)
  dsimp only
  refine wpAny_bind (wpAny_typeOf (T := "list") ⟨_, hl, rfl⟩ ?_)
  rw [if_pos (by decide)]
  refine wpAny_bind (wpAny_seqItems hl rfl ?_)
  refine wpAny_bind (wpAny_pure ?_)
  dsimp only
  rw [if_pos (by rfl)]
  exact wpAny_bind (wpAny_rule (wpAny_pure ⟨_, rfl, h⟩))

open PySem.Builtin.Re in
theorem sub_loop {w : World} {A : Around} {E : Value → Shared → Prop} {s : Shared} {Q : Value → Shared → Prop} {fn : Addr} {x : Str} {t : Tok} {h₀ : Heap} {L : Addr} {m : Str → Option Value} {news : List (Addr × Obj)} {l : Nat}
   (FR : Fr h₀ L s.heap m) (N : News h₀ L s.heap ((l, listOf #[] 0) :: news)) (hn : ∀ p ∈ news, p.1 ≠ l)
   (T : ReTarget) (hT : Looks (model PR w) s.heap (reWholeTarget (.ref 96) (.str x t)) T) (hN : Looks (model PR w) s.heap (reNextFound T 0 false) none) (hlim : 0 < T.lim) (hk : T.kind = 0) (hx : (⟨T.text.extract 0 T.lim⟩ : Str) = x) (hlen : x.length < 1000)
   (h : ∀ h' u, s.toks ≤ u → Fr h₀ L h' m → News h₀ L h' news → Q (.str x u) { s with heap := h', toks := u + 2 }) :
   codeAny (model PR w) A (.builtin "re.Pattern.sub.loop" ⟨[.ref 96, .str x t, .ref fn, rawInt 1, rawInt 0, rawInt 0, rawInt 0, rawInt 0, .bool false, .ref l, .bool false], []⟩) (wants Q E) s := by
  have big := big_size
  refine codeAny_builtin re_entry_loop ?_
  rw [Around.under_plainId re_plain_loop _]
  unfold Builtin.«re.Pattern.sub.loop»
  simp only [rawInt]
  refine wpAny_bind (hT.here ?_)
  rw [if_neg (by decide)]
  simp only [bne_self_eq_false, Bool.false_and, Bool.false_eq_true, if_false, Int.toNat_zero]
  refine wpAny_bind (hN.here ?_)
  dsimp only
  rw [if_pos hlim]
  refine wpAny_bind ?_
  have k0 : (T.kind == 0) = true := by rw [hk]; rfl
  unfold reSlice
  simp only [k0, if_true]
  rw [hx]
  refine wpAny_mkStr ?_ (by omega)
  have lg := N.get (.head _)
  obtain ⟨F2, N2⟩ := upd_turn (s := { s with toks := s.toks + 1 }) (f := fun o => o.mapSeq (·.push (.str x s.toks))) (o' := listOf #[.str x s.toks] 1) FR N (.head hn) (by rw [mapSeq_push]; rfl) rfl
  refine wpAny_bind (wpAny_updateSeq lg rfl ?_)
  refine wpAny_bind (wpAny_mkStr ?_ (by rw [show (⟨T.text.extract 0 0⟩ : Str) = ⟨#[]⟩ by simp]; exact Nat.zero_le _))
  refine wpAny_bind (wpAny_seqItems (N2.get (.head _)) rfl ?_)
  rw [if_neg (by simp)]
  refine wpAny_bind (join1 (u := s.toks) (k := 1) (N2.get (.head _)) ?_)
  exact wpAny_pure (h _ s.toks (Nat.le_refl _) F2 fun q hq => N2 q (.tail _ hq))

noncomputable def noHit (x : Str) : Prop := x = Str.ofString "co" ∨ x = Str.ofString "!." ∨ x = Str.ofString "0-9"
open PySem.Builtin.Re in
theorem target_of (w : World) {x : Str} {t : Tok} (hx : noHit x) : ∃ T, peek (hd.heap_1 w.params) ⟨PR, w.params⟩ (reWholeTarget (.ref 96) (.str x t)) = some T ∧ peek (hd.heap_1 w.params) ⟨PR, w.params⟩ (reNextFound T 0 false) = some none ∧ 0 < T.lim ∧ T.kind = 0 ∧ (⟨T.text.extract 0 T.lim⟩ : Str) = x ∧ x.length < 1000 := by
  rcases hx with rfl | rfl | rfl
  · refine ⟨_, rfl, ?_, ?_, ?_, ?_, ?_⟩
    · kernel_rfl
    · show 0 < (Str.ofString "co").cps.size; decide
    · rfl
    · rfl
    · decide
  · refine ⟨_, rfl, ?_, ?_, ?_, ?_, ?_⟩
    · kernel_rfl
    · show 0 < (Str.ofString "!.").cps.size; decide
    · rfl
    · rfl
    · decide
  · refine ⟨_, rfl, ?_, ?_, ?_, ?_, ?_⟩
    · kernel_rfl
    · show 0 < (Str.ofString "0-9").cps.size; decide
    · rfl
    · rfl
    · decide

theorem sub_N {w : World} {A : Around} {E : Value → Shared → Prop} {s : Shared} {Q : Value → Shared → Prop} {fn : Nat} {fo : Obj} {x : Str} {t : Tok} {h₀ : Heap} {L : Addr} {m : Str → Option Value} {news : List (Addr × Obj)} {lo tk0 : Nat}
   (hx : noHit x) (hT : TokLo lo tk0) (hle : lo < s.toks) (FR : Fr h₀ L s.heap m) (X : (hd.heap_1 w.params).In h₀) (N : News h₀ L s.heap news) (hm : (fn, fo) ∈ news) (hc : fo.cls = .type "function")
   (h : ∀ h' u, TokLo lo u → TokLo lo (u + 2) → Fr h₀ L h' m → News h₀ L h' news → Q (.str x u) { s with heap := h', toks := u + 2 }) :
   wpAny (model PR w) A (call (.builtin "re.Pattern.sub") [.ref 96, .ref fn, .str x t]) Q E s := by
  obtain ⟨T, p1, p2, hlim, hk, hxx, hlen⟩ := target_of w (t := t) hx
  have X1 := X.keeps FR.keep
  refine sub_first X1 (N.get hm) hc T (Looks.of_peek X1 p1) ?_
  refine newList_N FR N fun h' F' N' => ?_
  have X2 := X.keeps F'.keep
  have hne : ∀ p ∈ news, p.1 ≠ s.heap.objs.size := fun p hp => Nat.ne_of_lt (Heap.lt_size (N p hp).1)
  exact sub_loop (s := { s with heap := h' }) F' N' hne T (Looks.of_peek X2 p1) (Looks.of_peek X2 p2) hlim hk hxx hlen fun h'' u hu F'' N'' => h h'' u ⟨hT.1, Nat.lt_of_lt_of_le hle hu⟩ ⟨hT.1, Nat.lt_of_lt_of_le hle (Nat.le_trans hu (by omega))⟩ F'' N''
theorem getMethod_sub {w : World} {A : Around} {E : Value → Shared → Prop} {s : Shared} {pl : Sem Bool} {Q : Value × List Value → Shared → Prop} {h₀ : Heap} {L : Addr} {m : Str → Option Value} (FR : Fr h₀ L s.heap m) (X : (hd.heap_1 w.params).In h₀)
   (h : Q (.builtin "re.Pattern.sub", [.ref 96]) s) : wpAny (model PR w) A (getMethod (.ref 96) (Str.ofString "sub") pl) Q E s := by
  have X1 := X.keeps FR.keep
  exact getMethod_builtin ⟨_, X1 96 _ rfl, rfl⟩ re_attrs re_slot_sub re_type_sub (fun a e => by cases e; exact ⟨_, X1 96 _ rfl, rfl⟩) h
end Mine
end
section
open PySem PySem.W PySem.Spec PySem.Calls PyProof.Rows Mine
set_option maxRecDepth 100000
set_option maxHeartbeats 8000000
namespace Mine
/-- a table of code objects: lines, columns, refs -/
inductive TabOk : List Value → Prop
  | nil : TabOk []
  | cons {i j : Int} {a b : Tok} {c : Addr} {r : List Value} (h : TabOk r) : TabOk (.int i a :: .int j b :: .ref c :: r)
theorem TabOk.triples {l : List Value} (h : TabOk l) : TriplesOk l := by
  induction h with
  | nil => trivial
  | cons _ ih => exact ih
theorem TabOk.among {pos : Pos} {v : Value} {l : List Value} (h : TabOk l) (e : codeAmong pos l = some v) : ∃ c, v = .ref c := by
  induction h with
  | nil => cases e
  | @cons i j a b c r h ih =>
    unfold codeAmong at e
    split at e
    · cases e; exact ⟨c, rfl⟩
    · exact ih e
theorem TabOk.snoc {i j : Int} {a b : Tok} {c : Addr} {l : List Value} (h : TabOk l) : TabOk (l ++ [.int i a, .int j b, .ref c]) := by
  induction h with
  | nil => exact .cons .nil
  | cons _ ih => exact .cons ih
section
variable {M : Model} {A : Around} {E : Value → Shared → Prop} {s : Shared} {h₀ : Heap} {L a c P : Addr} {m mg mb : Str → Option Value} {cn : Str} {cs : Scope} {ccd : Value} {cl : List (Str × Addr)} {news : List (Addr × Obj)} {g : Obj → List (Addr × Obj)}
  {p : Program} {loose : List Str} {mean : ExcName → Option Value} {params : Arguments} {body : PySem.Expr} {scope : Scope} {ps : Array Value} {pos : Pos} {lo tk0 : Nat}
theorem lam_T {Q : Value → Shared → Prop} (F : Fr h₀ L s.heap m) (N : News h₀ L s.heap news) (T : Top p loose mean mg mb h₀) (C : CodeHd h₀ c P) (hcd : ccd = .ref c) (U : UpdF P (tabObj ps) news g) (ht : TabOk ps.toList) (hT : TokLo lo tk0) (hle : lo < s.toks)
    (hcl : closureFor scope (envX cn cs L a ccd cl) = pure []) (hdef : defaultsOf params (envX cn cs L a ccd cl) = ([], []))
    (h : ∀ (f : Nat) fo ps' h' tk, fo.cls = .type "function" → TabOk ps'.toList → TokLo lo tk → Fr h₀ L h' m → News h₀ L h' ((f, fo) :: g (tabObj ps')) → (∀ q ∈ news, q.1 < f) → Q (.ref f) { s with heap := h', toks := tk }) :
    wpAny M A (eval (.Lambda params body scope pos) (envX cn cs L a ccd cl)) Q E s := by
  refine kla_eval hdef ?_
  cases hf : codeAmong pos ps.toList with
  | none =>
    refine toks_use (kla_nest F N T C hcd U ht.triples hf hcl fun f c' oc vs t ctv h' tk F' N' d1 d2 l1 l2 hk => ?_)
    refine h f (kla_obj "<lambda>" ((envX cn cs L a ccd cl).qual ++ "<lambda>") params body scope [] ((mg "__name__").getD .none) c' ctv) (ps ++ #[rawInt pos.line, rawInt pos.col, .ref c']) h' tk rfl ?_ ⟨hT.1, Nat.lt_of_lt_of_le hle hk⟩ F' (fun q hq => N' q ?_) fun q hq => Nat.lt_trans (l1 q hq) l2
    · rw [Array.toList_append]; exact ht.snoc
    · rcases List.mem_cons.mp hq with rfl | hq
      · exact .head _
      · exact .tail _ (.tail _ hq)
  | some v =>
    obtain ⟨c', rfl⟩ := ht.among hf
    obtain ⟨pre, post, hl, hg, a1, a2⟩ := U.split
    have hmem : (P, tabObj ps) ∈ news := by rw [hl]; exact List.mem_append_right _ (.head _)
    refine toks_use (kla_hit F N T C hcd hmem ht.triples hf hcl fun f ctv h' tk F' N' l1 hk => ?_)
    refine h f (kla_obj "<lambda>" ((envX cn cs L a ccd cl).qual ++ "<lambda>") params body scope [] ((mg "__name__").getD .none) c' ctv) ps h' tk rfl ht ⟨hT.1, Nat.lt_of_lt_of_le hle hk⟩ F' (fun q hq => N' q ?_) l1
    rw [hg, ← hl] at hq
    exact hq
end
section
variable {prog : Program} {w : World} {A : Around} {E : Value → Shared → Prop} {s : Shared} {value slice : PySem.Expr} {x : Str} {t : Tok} {h₀ : Heap} {L : Addr} {m : Str → Option Value} {news : List (Addr × Obj)} {Q : Value → Shared → Prop} {lo tk0 : Nat}
theorem slice_ssT {i j : Int} {ui uj : Tok} (hT : TokLo lo tk0) (hle : lo < s.toks) (hF : Fr h₀ L s.heap m) (hN : News h₀ L s.heap news) (h : ∀ h' t' k, TokLo lo k → Fr h₀ L h' m → News h₀ L h' news → Q (.str (Txt.slice x (some i) (some j)) t') { s with heap := h', toks := k })
    (hs : subscripted slice false (.str x t) (.ref s.heap.objs.size) = operate [.ref s.heap.objs.size, .str x t] (getItem (.str x t) (.ref s.heap.objs.size)) := by with_unfolding_all rfl)
    (ht : ∀ r, letTemporaryGo value (.str x t) r = pure () := by intro _; with_unfolding_all rfl) (hsz : x.length ≤ sizeLine := by size_fits) :
    wpAny (model prog w) A (subscriptTail value slice (.str x t) (.ref s.heap.objs.size)) Q E { s with heap := s.heap.push { cls := .type "slice", data := .fields #[.int i ui, .int j uj, .none] } } :=
  toks_use (slice_strN_ss hF hN (fun h' t' k a b hk => h h' t' k ⟨hT.1, Nat.lt_of_lt_of_le hle hk⟩ a b) hs ht hsz)
theorem slice_snT {i : Int} {ui : Tok} (hT : TokLo lo tk0) (hle : lo < s.toks) (hF : Fr h₀ L s.heap m) (hN : News h₀ L s.heap news) (h : ∀ h' t' k, TokLo lo k → Fr h₀ L h' m → News h₀ L h' news → Q (.str (Txt.slice x (some i) none) t') { s with heap := h', toks := k })
    (hs : subscripted slice false (.str x t) (.ref s.heap.objs.size) = operate [.ref s.heap.objs.size, .str x t] (getItem (.str x t) (.ref s.heap.objs.size)) := by with_unfolding_all rfl)
    (ht : ∀ r, letTemporaryGo value (.str x t) r = pure () := by intro _; with_unfolding_all rfl) (hsz : x.length ≤ sizeLine := by size_fits) :
    wpAny (model prog w) A (subscriptTail value slice (.str x t) (.ref s.heap.objs.size)) Q E { s with heap := s.heap.push { cls := .type "slice", data := .fields #[.int i ui, .none, .none] } } :=
  toks_use (slice_strN_sn hF hN (fun h' t' k a b hk => h h' t' k ⟨hT.1, Nat.lt_of_lt_of_le hle hk⟩ a b) hs ht hsz)
end
section
variable {s : Shared} {h₀ : Heap} {L : Addr} {m : Str → Option Value} {news : List (Addr × Obj)}
theorem tr_endB {Q : Value → Shared → Prop} {ps ps' : Array Value} {xs : Array Value} {parts : List Str} {l n : Nat} {h' : Heap} {tk' : Nat} {led : List (Addr × Obj)}
    (hret : ∀ (l : Nat) vs n ps' h' tk', StrsAre vs parts → TabOk ps'.toList → (∀ p ∈ ((110, tabObj ps) :: news), p.1 < l) → Fr h₀ L h' m → News h₀ L h' ((l, listOf vs.toArray n) :: (110, tabObj ps') :: news) → Q (.ref l) { s with heap := h', toks := tk' })
    (F : Fr h₀ L h' m) (N : News h₀ L h' led) (m1 : (l, listOf xs n) ∈ led) (m2 : ((110 : Addr), tabObj ps') ∈ led) (m3 : ∀ q ∈ news, q ∈ led) (hs : StrsAre xs.toList parts) (ht : TabOk ps'.toList) (hl : AllLt l ((110, tabObj ps) :: news)) : Q (.ref l) { s with heap := h', toks := tk' } := by
  refine hret l xs.toList n ps' h' tk' hs ht (allLt_lt hl) F fun q hq => N q ?_
  rw [Array.toArray_toList] at hq
  rcases List.mem_cons.mp hq with rfl | hq
  · exact m1
  · rcases List.mem_cons.mp hq with rfl | hq
    · exact m2
    · exact m3 q hq
end
theorem truthy_strB {prog : Program} {w : World} {A : Around} {E : Value → Shared → Prop} {s : Shared} {x : Str} {t : Tok} {Q : Bool → Shared → Prop} (b : Bool) (hs : Nat.blt x.length 1000 = true) (hb : ((x.length : Int) != 0) = b) (h : Q b { s with toks := s.toks + 1 + 1 }) : wpAny (model prog w) A (truthy (.str x t)) Q E s := by
  have h1 : x.length < 1000 := by simpa [Nat.blt_eq] using hs
  exact P.truthy_str (by omega) (by rw [hb]; exact h)
end Mine
end
section
open PySem PySem.W PySem.Spec PySem.Calls PyProof.Rows Mine
set_option maxRecDepth 100000
set_option maxHeartbeats 8000000
namespace Mine
section
variable {prog : Program} {w : World} {A : Around} {E : Value → Shared → Prop} {s : Shared}
theorem args_find_4 (a b c d : Value) : argsOk "str.find" ⟨[a, b, c, d], []⟩ := by unfold argsOk; kernel_rfl
theorem find4 {x y : Str} {t u : Tok} {i j : Int} {a b : Tok} {Q : Value → Shared → Prop} (lo hi : Nat) (r : Int)
    (h1 : Builtin.Str.searchArgs "find" ⟨[.str x t, .str y u, .int i a, .int j b], []⟩ = pure (x, y, lo, hi))
    (h2 : (match Builtin.Str.occurrences x y lo hi 1 with | k :: _ => (k : Int) | [] => -1) = r) (h : Q (.int r s.toks) { s with toks := s.toks + 1 }) :
    wpAny (model prog w) A (call (.builtin "str.find") [.str x t, .str y u, .int i a, .int j b]) Q E s := by
  refine wpAny_call_entry F.slot_str_find (typeIs_str _ _ _) F.entry_str_find ?_ (args_find_4 _ _ _ _)
  unfold Builtin.«str.find»
  refine wpAny_bind (wpAny_of_eq h1 ?_)
  dsimp only
  split
  · rename_i k tl e
    rw [e] at h2
    subst h2
    exact wpAny_bind (wpAny_mkInt (wpAny_pure ⟨_, rfl, h⟩))
  · rename_i e
    rw [e] at h2
    subst h2
    exact wpAny_bind (wpAny_rule (wpAny_bind (wpAny_mkInt (wpAny_pure ⟨_, rfl, h⟩))))
theorem find4i {x y : Str} {t u : Tok} {i j : Int} {a b : Tok} {Q : Value → Shared → Prop} (r : Int)
    (h1 : Builtin.Str.searchArgs "find" ⟨[.str x t, .str y u, .int i a, .int j b], []⟩ = pure (x, y, i.toNat, j.toNat))
    (h2 : (match Builtin.Str.occurrences x y i.toNat j.toNat 1 with | k :: _ => (k : Int) | [] => -1) = r) (h : Q (.int r s.toks) { s with toks := s.toks + 1 }) :
    wpAny (model prog w) A (call (.builtin "str.find") [.str x t, .str y u, .int i a, .int j b]) Q E s := find4 _ _ r h1 h2 h
end
example (t u a b : Tok) : Builtin.Str.searchArgs "find" ⟨[.str (Str.ofString "*[0-9]") t, .str (Str.ofString "-") u, .int (0 + 1 + 1 + 1) a, .int (0+1+1+1+1+1) b], []⟩ = pure ((Str.ofString "*[0-9]"), (Str.ofString "-"), Int.toNat (0 + 1 + 1 + 1), Int.toNat (0+1+1+1+1+1)) := by kernel_rfl
example : (match Builtin.Str.occurrences (Str.ofString "*[0-9]") (Str.ofString "-") (Int.toNat (0 + 1 + 1 + 1)) (Int.toNat (0+1+1+1+1+1)) 1 with | k :: _ => (k : Int) | [] => -1) = 3 := by decide +kernel
end Mine
end
section
example : Mine.Stp True := by first | (walk1; fail) | (w_top off; exact Mine.Stp.to trivial)
open PySem PySem.W PySem.Spec PySem.Calls PyProof.Rows Mine
set_option maxRecDepth 100000
set_option maxHeartbeats 4000000
namespace Mine
section
variable {M : Model} {A : Around} {E : Value → Shared → Prop} {s : Shared} {c P : Addr} {ps : Array Value}
/-- the code object of a generator expression, met before or not -/
theorem code_T {env : Env} {pos : Pos} {qualname : Str} {scope : Scope} {Q : Value → Shared → Prop} (hc : env.code = .ref c) (hP : s.heap.get? P = some (tabObj ps)) (C : CodeHd s.heap c P) (ht : TabOk ps.toList)
    (hQ : ∀ code h' tk ps', Heap.ExtBut P s.heap h' → s.heap.objs.size ≤ h'.objs.size → h'.get? P = some (tabObj ps') → TabOk ps'.toList → Q code { s with heap := h', toks := tk }) :
    wpAny M A (genexprCode env pos qualname scope) Q E s := by
  have hok := C.code hP ht.triples
  cases hnf : codeAmong pos ps.toList with
  | none =>
    refine wpAny_genexprCodeX hc hok (C.tab hP) hnf fun c' h' tk hx hge hlt _ _ ht' _ => ?_
    refine hQ _ h' tk _ hx (Nat.le_trans hge (Nat.le_of_lt hlt)) ht'.2 ?_
    rw [Array.toList_append]; exact ht.snoc
  | some cv =>
    obtain ⟨o, vs, file, tf, flags, tg, inF, text, tt, op, ho, hd, h11, h2, h7, h9, h10, hop, hpd, htr, hne⟩ := id hok
    unfold genexprCode codeAt
    rw [hc, if_neg (show ¬ ((Value.ref c == Value.none) = true) from Bool.false_ne_true)]
    refine wpAny_bind (wpAny_fieldsOf ho hd ?_)
    rw [h11]
    refine wpAny_bind (wpAny_fieldsOf hop hpd ?_)
    rw [hnf]
    exact wpAny_pure (hQ cv s.heap s.toks ps (Heap.ExtBut.refl _ _) (Nat.le_refl _) hP ht)
end
/-- a generator that touches nothing of a ledger -/
noncomputable def GenK (prog : Program) (w : World) (A : Around) (L a : Addr) (all : List (Addr × Obj)) (n : Nat) (F : Nat → Value → Prop) (s : Shared) : Prop :=
  ∃ fp wr g St, WalksS prog w A.in4 a fp wr (GenOnlyQ g) n F St ∧ St 0 s ∧ (∀ i s', St i s' → s'.TypeIs (.ref a) "generator") ∧ a ∈ fp ∧ (∀ b ∈ fp, b < s.heap.objs.size) ∧ (∀ b ∈ wr, L < b) ∧ ∀ p ∈ all, p.1 ∉ wr
section
variable {prog : Program} {w : World} {A : Around} {E : Value → Shared → Prop} {s : Shared} {h₀ : Heap} {L c P l : Addr} {m mg mb : Str → Option Value} {news : List (Addr × Obj)} {p : Program} {loose : List Str} {mean : ExcName → Option Value} {ps : Array Value} {its : List Value} {k : Nat}
theorem gen_T {env : Env} {elt iter : PySem.Expr} {x : Str} {px : Pos} {scope : Scope} {cl : List (Str × Addr)} {pos : Pos} {Q : Value → Shared → Prop} {F2 : Nat → Value → Prop}
    (F₁ : Fr h₀ L s.heap m) (N : News h₀ L s.heap ((P, tabObj ps) :: news)) (hnP : ∀ q ∈ news, q.1 ≠ P) (ml : (l, W.listOf its.toArray k) ∈ news) (T : Top p loose mean mg mb h₀) (C : CodeHd h₀ c P) (ht : TabOk ps.toList)
    (hcode : env.code = .ref c) (hgl : env.globals = mainGlobals)
    (hh : A.handled = none) (hco : scope.isCoroutine = false) (hclos : closureFor scope env = pure cl) (hcell : ∀ y ∈ scope.names, y.2 ≠ .cell) (h0 : scope.names.lookup (".0" : Str) = some NameKind.local)
    (hx : scope.names.lookup x = some .local) (hkind : scope.kind = .function) (hroom : A.depth < recursionLimit)
    (hiter : wpAny (model prog w) A (eval iter env) (fun xv s₁ => xv = .ref l ∧ s₁ = s) E s)
    (hq : ∀ code C' fp wr href, QuietGen prog w (genEnv scope cl C' code builtinsNs env) x [] elt fp wr (fun i v => its.toArray[i]? = some v) (fun _ => true) F2 href)
    (h : ∀ a ps' h' tk gs, gs.bare = true → TabOk ps'.toList → Fr h₀ L h' m → News h₀ L h' ((P, tabObj ps') :: news) →
      GenK prog w A L a ((P, tabObj ps') :: news) (passing (fun _ => true) its.toArray.size 0).length (fun j y => ∃ i, (passing (fun _ => true) its.toArray.size 0)[j]? = some i ∧ F2 i y) { s with heap := h', gens := s.gens.push gs, toks := tk } →
      Q (.ref a) { s with heap := h', gens := s.gens.push gs, toks := tk })
    (hs : ∀ x, genFold iter env x = pure x) :
    wpAny (model prog w) A (eval (.GeneratorExp elt [⟨.Name x px, iter, [], 0⟩] scope pos) env) Q E s := by
  refine wpAny_GeneratorExp_walksQ hh hco hclos hcell h0 hx hkind hroom (wpAny_mono hiter (fun xv s₁ e => ?_) fun _ _ e => e) hs
  obtain ⟨rfl, rfl⟩ := e
  have hl : s₁.heap.IsList l its.toArray := ⟨_, (N _ (.tail _ ml)).1, rfl, _, rfl⟩
  have hlt : l < s₁.heap.objs.size := Heap.lt_size (N _ (.tail _ ml)).1
  have hPlt : P < s₁.heap.objs.size := Heap.lt_size (N _ (.head _)).1
  refine wpAny_pyIter_list hl ?_
  have up : ∀ b o, s₁.heap.get? b = some o → (s₁.heap.push { cls := .type "list_iterator", data := .fields #[.ref l, .int 0 0] }).get? b = some o := fun b o e => Heap.get?_push_of_some _ e
  have F₂ := F₁.keeps up
  have N₂ := N.grown up
  have hlim := T.nolimit.keeps F₂.keep
  refine ⟨hlim, code_T hcode (N₂ _ (.head _)).1 (C.keeps F₂.keep) ht fun code h₃ tk₃ ps' hx₃ hsz hP₃ ht' => ?_⟩
  have hPn : h₀.get? P = none := (N _ (.head _)).2.2
  have keep₃ : ∀ b o, h₀.get? b = some o → h₃.get? b = some o := fun b o e => hx₃ b o (fun q => by rw [q, hPn] at e; cases e) (F₂.keep b o e)
  have T₃ := T.keeps keep₃
  have hLP : L ≠ P := Ne.symm (N _ (.head _)).2.1
  have F₃ : Fr h₀ L h₃ m := ⟨F₂.ns.at fun o e => hx₃ L o hLP e, keep₃, F₂.above⟩
  have hsz' : s₁.heap.objs.size + 1 ≤ h₃.objs.size := by
    have : (s₁.heap.push { cls := .type "list_iterator", data := .fields #[.ref l, .int 0 0] }).objs.size ≤ h₃.objs.size := hsz
    rw [Heap.size_push] at this
    exact this
  have hLs : @LT.lt Nat _ L s₁.heap.objs.size := F₁.ns.lt
  have hcs : @LT.lt Nat _ cStatics s₁.heap.objs.size := by
    obtain ⟨_, hn, _⟩ := T.nolimit.keeps F₁.keep
    exact hn.lt
  obtain ⟨bm, ob, b1, b2, b3, b4, b5, b6⟩ := T₃.bmain
  refine wpAny_builtinsFor (hgl ▸ T₃.g) b1 b2 b3 b4 b5 b6 ?_
  refine ⟨s₁.heap.objs.size, [s₁.heap.objs.size, l], [s₁.heap.objs.size], its.toArray.size, _, _, fun _ => true, F2, rfl, (fun A' hA => Walks.list hA _ _ (Nat.ne_of_lt hlt) its.toArray),
    ⟨⟨_, hx₃ _ _ (Nat.ne_of_gt hPlt) (Heap.get?_push_size _ rfl), rfl, rfl⟩, ⟨_, hx₃ l _ (hnP _ ml) (N₂ _ (.tail _ ml)).1, rfl, _, rfl⟩⟩, ?_, T₃.nolimit, ?_, (fun href _ => hq _ _ _ _ _), ?_⟩
  · intro b hb
    show @LT.lt Nat _ b h₃.objs.size
    rcases List.mem_cons.mp hb with rfl | hb
    · omega
    · rw [List.mem_singleton.mp hb]
      have : @LT.lt Nat _ l s₁.heap.objs.size := hlt
      omega
  · intro hb
    have := List.mem_singleton.mp hb
    rw [this] at hcs
    exact Nat.lt_irrefl _ hcs
  · intro a h₅ tk gs hgb hag hsz₅ hk₅ W hat
    have N₅ : News h₀ L h₅ ((P, tabObj ps') :: news) := fun q hq => by
      rcases List.mem_cons.mp hq with rfl | hq
      · exact ⟨hk₅ _ _ hP₃, (N _ (.head _)).2⟩
      · exact ⟨hk₅ _ _ (hx₃ _ _ (hnP q hq) (N₂ _ (.tail _ hq)).1), (N _ (.tail _ hq)).2⟩
    have hag' : @LT.lt Nat _ h₃.objs.size a := hag
    refine h a ps' h₅ tk gs hgb ht' (F₃.keeps hk₅) N₅ ⟨_, _, _, _, W, hat, (fun i s' st => st.1.typeIs), List.mem_cons_self, ?_, ?_, ?_⟩
    · intro b hb
      show @LT.lt Nat _ b h₅.objs.size
      rw [hsz₅]
      rcases List.mem_cons.mp hb with rfl | hb
      · exact Nat.lt_succ_self _
      · rcases List.mem_cons.mp hb with rfl | hb
        · exact Nat.lt_succ_of_lt hag
        · exact Nat.lt_succ_of_lt (Nat.lt_trans (List.mem_range.mp hb) hag)
    · intro b hb
      show @LT.lt Nat _ L b
      rcases List.mem_cons.mp hb with rfl | hb
      · show @LT.lt Nat _ L h₃.objs.size
        omega
      · rw [List.mem_singleton.mp hb]; exact hLs
    · intro q hq hm
      have hqs : @LT.lt Nat _ q.1 s₁.heap.objs.size := by
        rcases List.mem_cons.mp hq with rfl | hq
        · exact hPlt
        · exact Heap.lt_size (N _ (.tail _ hq)).1
      rcases List.mem_cons.mp hm with e | hm
      · have e' : @Eq Nat q.1 h₃.objs.size := e
        omega
      · have e' : @Eq Nat q.1 s₁.heap.objs.size := List.mem_singleton.mp hm
        omega
theorem join_T {sep : Str} {t : Tok} {Q : Value → Shared → Prop} {a : Addr} {n : Nat} {F : Nat → Value → Prop} {all : List (Addr × Obj)} (Fh : Fr h₀ L s.heap m) (N : News h₀ L s.heap all) (X : GenK prog w A L a all n F s) (tx : Nat → Str) (htx : ∀ j v, F j v → ∃ u, v = .str (tx j) u)
    (hok : JoinOk sep ((List.range n).map tx) = true)
    (hQ : ∀ h' gs t' k, (AllBare s.gens → AllBare gs) → Fr h₀ L h' m → News h₀ L h' all → s.toks ≤ k → Q (.str (Txt.join sep ((List.range n).map tx)) t') { s with heap := h', gens := gs, toks := k })
    (hsz : n ≤ sizeLine := by size_fits) : wpAny (model prog w) A (call (.builtin "str.join") [.str sep t, .ref a]) Q E s := by
  obtain ⟨fp, wr, g, St, W, hst, hT, ha, hfp, hwr, hall⟩ := X
  have W := W.in4_2
  refine toks_useQ (SC.joinGen W hT hst hfp ha (fun j v hv => let ⟨u, e⟩ := htx j v hv; ⟨_, u, e⟩) (fun s' lt hm hacc => ?_) hsz)
  have hl : lt.map (·.1) = (List.range n).map tx := by
    apply List.ext_getElem?
    intro j
    have hsz : lt.length = n := by simpa [strValues] using hacc.1
    by_cases hj : j < n
    · have hj' : j < lt.length := hsz ▸ hj
      obtain ⟨u, hv⟩ := htx j _ (hacc.2 j (.str lt[j].1 lt[j].2) (by simp [strValues, List.getElem?_eq_getElem hj']))
      injection hv with h1 _
      simp [List.getElem?_eq_getElem hj', hj, h1]
    · rw [List.getElem?_eq_none (by simpa [hsz] using Nat.le_of_not_lt hj), List.getElem?_eq_none (by simpa using Nat.le_of_not_lt hj)]
  rw [hl]
  refine ⟨hok, fun t' k => ?_⟩
  have f1 := Fh.moved hm hwr
  have n1 : News h₀ L s'.heap all := fun q hq => ⟨hm.heap _ _ (hall q hq) (N q hq).1, (N q hq).2⟩
  obtain ⟨hp, gs, dr, tk, os⟩ := s'
  have e1 : dr = s.drawn := hm.drawn
  have e2 : os = s.os := hm.os
  subst e1
  subst e2
  intro hle
  exact hQ hp gs t' k (fun z => AllBare.movedS z hm) f1 n1 hle
end
end Mine
end
set_option hygiene false
local macro_rules | `(tactic| walk_at "om") => `(tactic| ((try dsimp only); first | walk_at "up" | omega))
local macro_rules | `(tactic| walk_at "up") => `(tactic| (repeat (first | with_reducible refine Mine.lt_up ?_ | with_reducible refine Mine.lt_up2 ?_)); exact Mine.tk_lt (by with_reducible assumption))
set_option hygiene true
local macro_rules | `(tactic| walk_at "gt") => `(tactic| (k_here; (fail_if_success (fail_if_success k_gentoks)); refine Mine.gen_toks (by assumption) (by walk_at "om") ?_; intro tk' hT'))
set_option hygiene false
local macro_rules | `(tactic| walk_at "eval Name") => `(tactic| (k_here; k_dflt (first | refine PySem.W.nameX_L (by k_asm) (by rfl) ?_ (by rfl) (by rfl) | refine PySem.W.nameX_K (by k_asm) (by k_asm) (by k_asm) (by k_is) ?_ (by rfl) (by rfl) | refine PySem.W.nameX_B (by k_asm) (by k_asm) (by k_asm) (by k_is) (by boot_fast) (by decide) ?_ (by rfl) (by rfl))))
set_option hygiene true
section
open PySem PySem.W PySem.Spec PySem.Calls PyProof.Rows Mine
set_option maxRecDepth 100000
set_option maxHeartbeats 8000000
example : Mine.Stp True := by first | (walk1; fail) | (w_top off; exact Mine.Stp.to trivial)
set_option hygiene false
local macro_rules | `(tactic| walk_at "or1") => `(tactic| first | exact rfl | exact ⟨rfl, rfl⟩)
local macro_rules | `(tactic| walk_at "or") => `(tactic| first | exact .inl (by walk_at "or1") | (refine .inr ?_; walk_at "or") | walk_at "or1")
local macro_rules | `(tactic| walk_at "getAttr ref") => `(tactic| (k_here; with_reducible refine at_ga "append" ?_; k_dflt (refine geta_N (by k_asm) (by k_asm) (by k_mem) ?_); walk_at "i4"))
local macro_rules | `(tactic| walk_at "call ref") => `(tactic| (k_here; with_reducible refine at_c1 ?_; k_dflt (refine bm_call (by k_asm) (by k_asm) (by k_mem) (by k_upd) ?_ (by size_fits); walk_at "i3")))
local macro_rules | `(tactic| walk_at "callWith ref") => `(tactic| (k_here; with_reducible refine at_cw ?_; k_dflt (first | (refine callWith_bm (by k_asm) (by k_mem) ?_) | (refine callWith_mw (by k_asm) (by k_mem) ?_); k_whole)))
local macro_rules | `(tactic| walk_at "And") => `(tactic| ((refine and_o (by k_asm) (by k_mem) ?_); (try dsimp only [List.nil_append, List.cons_append])))
local macro_rules | `(tactic| walk_at "getMethod str") => `(tactic| (k_here; with_reducible refine at_gs "translate" ?_; refine gm_translate ?_))
local macro_rules | `(tactic| walk_at "call builtin:str.translate") => `(tactic| (k_here; k_dflt (refine tr_Y (by walk_at "or") (by assumption) (by walk_at "om") (by rfl) (by k_asm) (by k_asm) (by k_asm) ?_; intro h' u' hT1' hT2' F' N'; (try k_sweep))))
local macro_rules | `(tactic| walk_at "compareOp IsNot") => `(tactic| (k_here; refine isNot_str ⟨by omega, by omega⟩ (by rfl) ?_))
local macro_rules | `(tactic| walk_at "execs cons") => `(tactic| (k_here; refine execs_consG (by assumption) (by walk_at "om") ?_; intro tk' hT'; (try dsimp only); (try k_fold)))
local macro_rules | `(tactic| walk_at "execs nil") => `(tactic| walk_at "gt")
local macro_rules | `(tactic| walk_at "forall") => `(tactic| (intro hTk9; (try dsimp only at hTk9); try dsimp only))
local macro_rules | `(tactic| walk_at "And") => `(tactic| (with_reducible refine le_and ?_ ?_; decide +kernel))
local macro_rules | `(tactic| walk_at "Eq") => `(tactic| exact News.get (by k_asm) (by k_mem))
local macro_rules | `(tactic| walk_at "truthy ref") => `(tactic| (k_here; k_dflt (first | (refine truthy_N (b := true) (by k_asm) (by k_mem) (by rfl) (by rfl) ?_) | (refine truthy_N (b := false) (by k_asm) (by k_mem) (by rfl) (by rfl) ?_))))
local macro_rules | `(tactic| walk_at "subscriptTail Name Name str int") => `(tactic| (k_here; (refine item_str (by decide) (by decide) (by decide) ?_); intro _))
local macro_rules | `(tactic| walk_at "compareOp In str str") => `(tactic| (k_here; first | refine in_strB true (by decide +kernel) ?_ | refine in_strB false (by decide +kernel) ?_))
local macro_rules | `(tactic| walk_at "compareOp NotIn str str") => `(tactic| (k_here; first | refine notIn_strB true (by decide +kernel) ?_ | refine notIn_strB false (by decide +kernel) ?_))
local macro_rules | `(tactic| walk_at "call builtin:str.replace") => `(tactic| (k_here; refine replaceT (by decide +kernel) ?_))
local macro_rules | `(tactic| walk_at "getMethod ref") => `(tactic| (k_here; with_reducible refine at_gm "sub" ?_; k_dflt (refine getMethod_sub (by k_asm) (by k_asm) ?_)))
local macro_rules | `(tactic| walk_at "call builtin:re.Pattern.sub") => `(tactic| (k_here; k_dflt (refine sub_N (by walk_at "or") (by assumption) (by walk_at "om") (by k_asm) (by k_asm) (by k_asm) (by k_mem) (by first | assumption | rfl) ?_; intro h' u' hT1' hT2' F' N'; (try k_sweep))))
local macro_rules | `(tactic| walk_at "eval Lambda") => `(tactic| (k_here; k_dflt (refine lam_T (by k_asm) (by k_asm) (by k_asm) (by kn_code) (by rfl) (by k_updF) (by assumption) (by assumption) (by walk_at "om") (by rfl) (by rfl) ?_); intro f' fo' ps' h' tk' hfo' ht' hT' F' N' l1; (try dsimp only at N'); (try k_lt l1)))
local macro_rules | `(tactic| walk_at "subscriptTail Name Slice str ref") => `(tactic| ((with_reducible rename Fr _ _ _ _ => F'); (with_reducible rename News _ _ _ _ => N'); (first | (with_reducible refine at_s2 ?_; refine slice_ssT (hsz := by size_fits) (s := ⟨_, _, _, _, _⟩) (by assumption) (by walk_at "om") F' N' ?_) | refine slice_snT (hsz := by size_fits) (s := ⟨_, _, _, _, _⟩) (by assumption) (by walk_at "om") F' N' ?_); intro h' t' k' hT' F' N'))
local macro_rules | `(tactic| walk_at "truthy str") => `(tactic| (k_here; first | refine truthy_strB true (by decide) (by decide) ?_ | refine truthy_strB false (by decide) (by decide) ?_))
local macro_rules | `(tactic| walk_at "call builtin:str.find") => `(tactic| (k_here; with_reducible refine at_f4 ?_; first | refine find4i 3 (by kernel_rfl) (by decide +kernel) ?_ | refine find4i (-1) (by kernel_rfl) (by decide +kernel) ?_))
local macro_rules | `(tactic| walk_at "exec While Constant cons nil") => `(tactic| (refine Stp.of ?_))
local macro_rules | `(tactic| walk_at "eval GeneratorExp") => `(tactic| (refine Stp.of ?_))
local macro_rules | `(tactic| walk_at "lit") => `(tactic| (k_here; with_reducible refine at_st ?_; (with_unfolding_all refine item_litK (by is_list) (by decide) (by decide) (by rfl) ?_ (by with_unfolding_all rfl))))
local macro_rules | `(tactic| walk_at "subscriptTail Name Name ref int") => `(tactic| walk_at "lit")
local macro_rules | `(tactic| walk_at "subscriptTail Name BinOp ref int") => `(tactic| walk_at "lit")
local macro_rules | `(tactic| walk_at "pyIter ref") => `(tactic| ((with_reducible show wpAny _ _ (pyIter (Value.ref _)) (fun it s₂ => LoopAtV _ _ _ _ _ _ _ _ _ it s₂) _ _); k_here; l_hasStore; krs_unr))
local macro_rules | `(tactic| walk_at "call builtin:str.join") => `(tactic| (refine Stp.of ?_))
local macro_rules | `(tactic| walk_at "exec If") => `(tactic| (k_here; (refine wpAny_If ?_); (try k_fold)))
local macro_rules | `(tactic| walk_at "storeName") => `(tactic| (k_here; k_dflt (refine storeX_L (by k_asm) (by k_asm) ?_ (by rfl) (by rfl)); intro h' F' N'; refine fr_let F' ?_; clear F'; intro m' F'; (try k_sweep)))
local macro_rules | `(tactic| walk_at "exec Assign cons BinOp") => `(tactic| (k_here; with_reducible refine Mine.at_inc ?_; k_dflt (refine Mine.si_inc (by k_asm) (by k_asm) (by rfl) ?_); intro h' t' tk' m' F' N'; (try k_sweep)))
local macro_rules | `(tactic| walk_at "exec Assign cons Name") => `(tactic| (k_here; with_reducible refine Mine.at_set ?_; k_dflt (refine Mine.si_set (by k_asm) (by k_asm) (by rfl) ?_); intro h' tk' m' F' N'; (try k_sweep)))
local macro_rules | `(tactic| walk_at "exec Assign cons Subscript") => `(tactic| (k_here; with_reducible refine Mine.at_item ?_; k_dflt (refine Mine.si_item (by k_asm) (by k_asm) (by rfl) (by rfl) (by decide) (by decide) (by decide) ?_); intro h' t' tk' m' F' N'; (try k_sweep)))
local macro_rules | `(tactic| walk_at "isTrue Compare Name") => `(tactic| (k_here; first | (with_reducible refine Mine.at_lt ?_; k_dflt (refine Mine.si_lt (by k_asm) (by rfl) (by rfl) ?_)) | (with_reducible refine Mine.at_eqc ?_; k_dflt (refine Mine.si_eq (by k_asm) (by rfl) ?_))))
local macro_rules | `(tactic| walk_at "isTrue Compare Subscript") => `(tactic| (k_here; first | (with_reducible refine Mine.at_ieq ?_; k_dflt (refine Mine.si_itemEq (by k_asm) (by rfl) (by rfl) (by decide) (by decide) (by decide) ?_)) | (with_reducible refine Mine.at_ine ?_; k_dflt (refine Mine.si_itemNe (by k_asm) (by rfl) (by rfl) (by decide) (by decide) (by decide) ?_))))
local macro_rules | `(tactic| walk_at "exec Expr Call") => `(tactic| (k_here; with_reducible refine Mine.at_add ?_; k_dflt (refine Mine.si_add (by k_asm) (by k_asm) (by rfl) (by k_mem) (by rfl) (by k_upd) ?_); walk_at "i3"))
local macro_rules | `(tactic| walk_at "isTrue BoolOp") => `(tactic| (k_here; first | (with_reducible refine Mine.at_andE ?_; k_dflt (refine Mine.si_andEq (by k_asm) (by rfl) (by rfl) (by rfl) (by decide) (by decide) (by decide) (by decide) ?_)) | (with_reducible refine Mine.at_andN ?_; k_dflt (refine Mine.si_andNe (by k_asm) (by rfl) (by rfl) (by rfl) (by decide) (by decide) (by decide) (by decide) ?_))))
local macro_rules | `(tactic| walk_at "exec If Compare") => `(tactic| (k_here; with_reducible refine Mine.at_ifE ?_; k_dflt (first | refine Mine.si_ifT (by k_asm) (by rfl) (by decide) ?_ | refine Mine.si_ifF (by k_asm) (by rfl) (by decide) ?_); (try k_fold)))
set_option hygiene true
section
open PySem PySem.W PySem.Spec PySem.Calls PyProof.Rows Mine
set_option maxRecDepth 100000
set_option maxHeartbeats 8000000
set_option hygiene false
set_option hygiene true
namespace Mine
theorem tr_a (w : World) (news : List (Addr × Obj)) (t1 t2 t3 : Tok)
   (p : Program) (loose : List Str) (mean : ExcName → Option Value) (mg mb : Str → Option Value) (dp un : Nat) (gd : Option (List Code)) (cn : Str) (cs : Scope) (a : Addr) (ccd : Value) (cl : List (Str × Addr)) (outer : List Env) (A₀ : Around) (base h₀ : Heap) (L : Addr) (m : Str → Option Value) (s : Shared) (Q E : Value → Shared → Prop)
    (B : Below A₀ base outer h₀) (F : Fr h₀ L s.heap m) (X : (hd.heap_1 w.params).In h₀) (N : News h₀ L s.heap news) (T : Top p loose mean mg mb h₀) (hk : cs.kind = .function)
    (hT0 : TokLo t2 s.toks) (hdp : dp + 10 < recursionLimit) (hu : un + 100 < cLine)
    (hret : ∀ (l : Nat) vs n h' tk', StrsAre vs [Str.ofString "many", Str.ofString "\\.", Str.ofString "o"] → (∀ p ∈ news, p.1 < l) → Fr h₀ L h' m → News h₀ L h' ((l, listOf vs.toArray n) :: news) → Q (.ref l) { s with heap := h', toks := tk' }) :
    wpAny (model PR w) (ktrTop dp un gd cn cs L a ccd cl outer) (call (.ref 115) [.str (Str.ofString "*.o") t1, .str (Str.ofString "many") t2, .str (Str.ofString "any") t3]) Q E s := by
  unfold PR
  revert X; k_fill; intro X
  refine a_let ?_
  intro K9
  have hK9 : K9.depth = dp := rfl
  have hK9u : K9.units = un := rfl
  refine wpAny_call ?_
  k_dflt ktr_enter
  with_reducible rename Fr _ _ _ _ => FE
  refine fr_let FE ?_
  clear FE
  intro mE FE
  k_steps
  refine' tr_end (s := s) (Q := Q) (news := news) hret ?f ?n ?s ?l
  case f => k_asm
  case n => k_asm
  case s => exact .cons _ _ (.cons _ _ (.cons _ _ (.nil)))
  case l => first | assumption | exact allLt_of (by assumption) | exact aa1 (by assumption) | exact aa2 (by assumption) | exact allLt_trans (aa1 (by assumption)) (by omega) | exact allLt_trans (aa2 (by assumption)) (by omega) | exact allLt_trans (aa3 (by assumption)) (by omega)

theorem tr_g (w : World) (news : List (Addr × Obj)) (t1 t2 t3 : Tok)
   (p : Program) (loose : List Str) (mean : ExcName → Option Value) (mg mb : Str → Option Value) (dp un : Nat) (gd : Option (List Code)) (cn : Str) (cs : Scope) (a : Addr) (ccd : Value) (cl : List (Str × Addr)) (outer : List Env) (A₀ : Around) (base h₀ : Heap) (L : Addr) (m : Str → Option Value) (s : Shared) (Q E : Value → Shared → Prop)
    (B : Below A₀ base outer h₀) (F : Fr h₀ L s.heap m) (X : (hd.heap_1 w.params).In h₀) (N : News h₀ L s.heap news) (T : Top p loose mean mg mb h₀) (hk : cs.kind = .function)
    (hT0 : TokLo t2 s.toks) (hdp : dp + 10 < recursionLimit) (hu : un + 100 < cLine)
    (hret : ∀ (l : Nat) vs n h' tk', StrsAre vs [Str.ofString "many", Str.ofString "g", Str.ofString "many"] → (∀ p ∈ news, p.1 < l) → Fr h₀ L h' m → News h₀ L h' ((l, listOf vs.toArray n) :: news) → Q (.ref l) { s with heap := h', toks := tk' }) :
    wpAny (model PR w) (ktrTop dp un gd cn cs L a ccd cl outer) (call (.ref 115) [.str (Str.ofString "*g*") t1, .str (Str.ofString "many") t2, .str (Str.ofString "any") t3]) Q E s := by
  unfold PR
  revert X; k_fill; intro X
  refine a_let ?_
  intro K9
  have hK9 : K9.depth = dp := rfl
  have hK9u : K9.units = un := rfl
  refine wpAny_call ?_
  k_dflt ktr_enter
  with_reducible rename Fr _ _ _ _ => FE
  refine fr_let FE ?_
  clear FE
  intro mE FE
  k_steps
  refine' tr_end (s := s) (Q := Q) (news := news) hret ?f ?n ?s ?l
  case f => k_asm
  case n => k_asm
  case s => exact .cons _ _ (.cons _ _ (.cons _ _ (.nil)))
  case l => first | assumption | exact allLt_of (by assumption) | exact aa1 (by assumption) | exact aa2 (by assumption) | exact allLt_trans (aa1 (by assumption)) (by omega) | exact allLt_trans (aa2 (by assumption)) (by omega) | exact allLt_trans (aa3 (by assumption)) (by omega)

theorem tr_e (w : World) (news : List (Addr × Obj)) (t1 t2 t3 : Tok)
   (p : Program) (loose : List Str) (mean : ExcName → Option Value) (mg mb : Str → Option Value) (dp un : Nat) (gd : Option (List Code)) (cn : Str) (cs : Scope) (a : Addr) (ccd : Value) (cl : List (Str × Addr)) (outer : List Env) (A₀ : Around) (base h₀ : Heap) (L : Addr) (m : Str → Option Value) (s : Shared) (Q E : Value → Shared → Prop)
    (B : Below A₀ base outer h₀) (F : Fr h₀ L s.heap m) (X : (hd.heap_1 w.params).In h₀) (N : News h₀ L s.heap news) (T : Top p loose mean mg mb h₀) (hk : cs.kind = .function)
    (hT0 : TokLo t2 s.toks) (hdp : dp + 10 < recursionLimit) (hu : un + 100 < cLine)
    (hret : ∀ (l : Nat) vs n h' tk', StrsAre vs [Str.ofString "any", Str.ofString "any", Str.ofString "any"] → (∀ p ∈ news, p.1 < l) → Fr h₀ L h' m → News h₀ L h' ((l, listOf vs.toArray n) :: news) → Q (.ref l) { s with heap := h', toks := tk' }) :
    wpAny (model PR w) (ktrTop dp un gd cn cs L a ccd cl outer) (call (.ref 115) [.str (Str.ofString "???") t1, .str (Str.ofString "many") t2, .str (Str.ofString "any") t3]) Q E s := by
  unfold PR
  revert X; k_fill; intro X
  refine a_let ?_
  intro K9
  have hK9 : K9.depth = dp := rfl
  have hK9u : K9.units = un := rfl
  refine wpAny_call ?_
  k_dflt ktr_enter
  with_reducible rename Fr _ _ _ _ => FE
  refine fr_let FE ?_
  clear FE
  intro mE FE
  k_steps
  refine' tr_end (s := s) (Q := Q) (news := news) hret ?f ?n ?s ?l
  case f => k_asm
  case n => k_asm
  case s => exact .cons _ _ (.cons _ _ (.cons _ _ (.nil)))
  case l => first | assumption | exact allLt_of (by assumption) | exact aa1 (by assumption) | exact aa2 (by assumption) | exact allLt_trans (aa1 (by assumption)) (by omega) | exact allLt_trans (aa2 (by assumption)) (by omega) | exact allLt_trans (aa3 (by assumption)) (by omega)
end Mine
end
section
open PySem PySem.W PySem.Spec PySem.Calls PyProof.Rows Mine
set_option maxRecDepth 100000
set_option maxHeartbeats 8000000
set_option hygiene false
set_option hygiene true
namespace Mine
theorem tr_b (w : World) (news : List (Addr × Obj)) (t1 t2 t3 : Tok)
   (p : Program) (loose : List Str) (mean : ExcName → Option Value) (mg mb : Str → Option Value) (dp un : Nat) (gd : Option (List Code)) (cn : Str) (cs : Scope) (a : Addr) (ccd : Value) (cl : List (Str × Addr)) (outer : List Env) (A₀ : Around) (base h₀ : Heap) (L : Addr) (m : Str → Option Value) (s : Shared) (Q E : Value → Shared → Prop)
    (B : Below A₀ base outer h₀) (F : Fr h₀ L s.heap m) (X : (hd.heap_1 w.params).In h₀) (N : News h₀ L s.heap news) (T : Top p loose mean mg mb h₀) (hk : cs.kind = .function)
    (hT0 : TokLo t2 s.toks) (hdp : dp + 10 < recursionLimit) (hu : un + 100 < cLine)
    (hret : ∀ (l : Nat) vs n h' tk', StrsAre vs [Str.ofString "a", Str.ofString "many"] → (∀ p ∈ news, p.1 < l) → Fr h₀ L h' m → News h₀ L h' ((l, listOf vs.toArray n) :: news) → Q (.ref l) { s with heap := h', toks := tk' }) :
    wpAny (model PR w) (ktrTop dp un gd cn cs L a ccd cl outer) (call (.ref 115) [.str (Str.ofString "a*") t1, .str (Str.ofString "many") t2, .str (Str.ofString "any") t3]) Q E s := by
  unfold PR
  revert X; k_fill; intro X
  refine a_let ?_
  intro K9
  have hK9 : K9.depth = dp := rfl
  have hK9u : K9.units = un := rfl
  refine wpAny_call ?_
  k_dflt ktr_enter
  with_reducible rename Fr _ _ _ _ => FE
  refine fr_let FE ?_
  clear FE
  intro mE FE
  k_steps
  refine' tr_end (s := s) (Q := Q) (news := news) hret ?f ?n ?s ?l
  case f => k_asm
  case n => k_asm
  case s => exact .cons _ _ (.cons _ _ (.nil))
  case l => first | assumption | exact allLt_of (by assumption) | exact aa1 (by assumption) | exact aa2 (by assumption) | exact allLt_trans (aa1 (by assumption)) (by omega) | exact allLt_trans (aa2 (by assumption)) (by omega) | exact allLt_trans (aa3 (by assumption)) (by omega)
end Mine
end
section
open PySem PySem.W PySem.Spec PySem.Calls PyProof.Rows Mine
set_option maxRecDepth 100000
set_option maxHeartbeats 8000000
set_option hygiene false
set_option hygiene true
namespace Mine
theorem tr_c (w : World) (news : List (Addr × Obj)) (ps : Array Value) (hps : TabOk ps.toList) (t1 t2 t3 : Tok)
   (p : Program) (loose : List Str) (mean : ExcName → Option Value) (mg mb : Str → Option Value) (dp un : Nat) (gd : Option (List Code)) (cn : Str) (cs : Scope) (a : Addr) (ccd : Value) (cl : List (Str × Addr)) (outer : List Env) (A₀ : Around) (base h₀ : Heap) (L : Addr) (m : Str → Option Value) (s : Shared) (Q E : Value → Shared → Prop)
    (B : Below A₀ base outer h₀) (F : Fr h₀ L s.heap m) (X : (hd.heap_1 w.params).In h₀) (CH : CodeHd base 114 110) (N : News h₀ L s.heap ((110, tabObj ps) :: news)) (hn110 : ∀ p ∈ news, p.1 ≠ 110) (T : Top p loose mean mg mb h₀) (hk : cs.kind = .function)
    (hT0 : TokLo t2 s.toks) (hdp : dp + 10 < recursionLimit) (hu : un + 100 < cLine)
    (hret : ∀ (l : Nat) vs n ps' h' tk', StrsAre vs [Str.ofString "many", Str.ofString "\\.", Str.ofString "[co]"] → TabOk ps'.toList → (∀ p ∈ ((110, tabObj ps) :: news), p.1 < l) → Fr h₀ L h' m → News h₀ L h' ((l, listOf vs.toArray n) :: (110, tabObj ps') :: news) → Q (.ref l) { s with heap := h', toks := tk' }) :
    wpAny (model PR w) (ktrTop dp un gd cn cs L a ccd cl outer) (call (.ref 115) [.str (Str.ofString "*.[co]") t1, .str (Str.ofString "many") t2, .str (Str.ofString "any") t3]) Q E s := by
  unfold PR
  revert X; k_fill; intro X
  refine a_let ?_
  intro K9
  have hK9 : K9.depth = dp := rfl
  have hK9u : K9.units = un := rfl
  refine wpAny_call ?_
  k_dflt ktr_enter
  with_reducible rename Fr _ _ _ _ => FE
  refine fr_let FE ?_
  clear FE
  intro mE FE
  k_steps
  refine' tr_endB (s := s) (Q := Q) (news := news) hret ?ze1 ?ze2 ?ze3 ?ze4 ?ze5 ?ze6 ?ze7 ?ze8
  case ze1 => k_asm
  case ze2 => k_asm
  case ze3 => k_mem
  case ze4 => k_mem
  case ze5 => exact fun q hq => by repeat (first | exact hq | apply List.Mem.tail)
  case ze6 => exact .cons _ _ (.cons _ _ (.cons _ _ (.nil)))
  case ze7 => assumption
  case ze8 => first | assumption | exact allLt_of (by assumption)
end Mine
end
section
open PySem PySem.W PySem.Spec PySem.Calls PyProof.Rows Mine
set_option maxRecDepth 100000
set_option maxHeartbeats 8000000
set_option hygiene false
set_option hygiene true
namespace Mine
local macro_rules | `(tactic| walk_at "execs cons") => `(tactic| first | walk_at "gt" | (k_here; (with_reducible rename TokLo _ _ => hTk9); (with_reducible refine execs_consT ?_); (try dsimp only); (try k_fold)))
local macro_rules | `(tactic| walk_at "forall") => `(tactic| ((intro hTk9); (try dsimp only at hTk9); (first | (have hTn9 := TokLo.up (by assumption) hTk9) | (have hTn9 := tok_step (by assumption) hTk9 (by omega)) | skip); try dsimp only))
theorem tr_d (w : World) (news : List (Addr × Obj)) (ps : Array Value) (hps : TabOk ps.toList) (t1 t2 t3 : Tok)
   (p : Program) (loose : List Str) (mean : ExcName → Option Value) (mg mb : Str → Option Value) (dp un : Nat) (gd : Option (List Code)) (cn : Str) (cs : Scope) (a : Addr) (ccd : Value) (cl : List (Str × Addr)) (outer : List Env) (A₀ : Around) (base h₀ : Heap) (L : Addr) (m : Str → Option Value) (s : Shared) (Q E : Value → Shared → Prop)
    (B : Below A₀ base outer h₀) (F : Fr h₀ L s.heap m) (X : (hd.heap_1 w.params).In h₀) (CH : CodeHd base 114 110) (N : News h₀ L s.heap ((110, tabObj ps) :: news)) (hn110 : ∀ p ∈ news, p.1 ≠ 110) (T : Top p loose mean mg mb h₀) (hk : cs.kind = .function)
    (hT0 : TokLo t2 s.toks) (hdp : dp + 10 < recursionLimit) (hu : un + 100 < cLine)
    (hret : ∀ (l : Nat) vs n ps' h' tk', StrsAre vs [Str.ofString "[^.]", Str.ofString "many"] → TabOk ps'.toList → (∀ p ∈ ((110, tabObj ps) :: news), p.1 < l) → Fr h₀ L h' m → News h₀ L h' ((l, listOf vs.toArray n) :: (110, tabObj ps') :: news) → Q (.ref l) { s with heap := h', toks := tk' }) :
    wpAny (model PR w) (ktrTop dp un gd cn cs L a ccd cl outer) (call (.ref 115) [.str (Str.ofString "[!.]*") t1, .str (Str.ofString "many") t2, .str (Str.ofString "any") t3]) Q E s := by
  unfold PR
  revert X; k_fill; intro X
  refine a_let ?_
  intro K9
  have hK9 : K9.depth = dp := rfl
  have hK9u : K9.units = un := rfl
  refine wpAny_call ?_
  k_dflt ktr_enter
  with_reducible rename Fr _ _ _ _ => FE
  refine fr_let FE ?_
  clear FE
  intro mE FE
  k_steps
  refine' tr_endB (s := s) (Q := Q) (news := news) hret ?ze1 ?ze2 ?ze3 ?ze4 ?ze5 ?ze6 ?ze7 ?ze8
  case ze1 => k_asm
  case ze2 => k_asm
  case ze3 => k_mem
  case ze4 => k_mem
  case ze5 => exact fun q hq => by repeat (first | exact hq | apply List.Mem.tail)
  case ze6 => exact .cons _ _ (.cons _ _ (.nil))
  case ze7 => assumption
  case ze8 => first | assumption | exact allLt_of (by assumption)
end Mine
end
section
open PySem PySem.W PySem.Spec PySem.Calls PyProof.Rows Mine
set_option maxRecDepth 100000
set_option maxHeartbeats 8000000
set_option hygiene false
set_option hygiene true
namespace Mine
section
variable {h₀ h : Heap} {L : Addr} {m : Str → Option Value}
theorem fr_put (F : Fr h₀ L h m) (a : Str) {v : Option Value} (e : m a = v) : Fr h₀ L h (fun y => if y = a then v else m y) := by
  have q : (fun y => if y = a then v else m y) = m := by
    funext y
    by_cases z : y = a
    · subst z; simp [e]
    · simp [z]
  rw [q]; exact F
theorem fr_int (F : Fr h₀ L h m) (a : Str) (i : Int) (e : ∃ t, m a = some (.int i t)) : ∃ t : Tok, Fr h₀ L h (fun y => if y = a then some (.int i t) else m y) := by
  obtain ⟨t, e⟩ := e; exact ⟨t, fr_put F a e⟩
theorem fr_ref (F : Fr h₀ L h m) (a : Str) (e : ∃ t, m a = some (.ref t)) : ∃ t : Addr, m a = some (.ref t) ∧ Fr h₀ L h (fun y => if y = a then some (.ref t) else m y) := by
  obtain ⟨t, e⟩ := e; exact ⟨t, e, fr_put F a e⟩
theorem fr_str (F : Fr h₀ L h m) (a : Str) (x : Str) (e : ∃ t, m a = some (.str x t)) : ∃ t : Tok, Fr h₀ L h (fun y => if y = a then some (.str x t) else m y) := by
  obtain ⟨t, e⟩ := e; exact ⟨t, fr_put F a e⟩
theorem fr_hide (C : (Str → Option Value) → Str → Option Value) (F : Fr h₀ L h (C m)) : ∃ m₀, Fr h₀ L h (C m₀) := ⟨m, F⟩
end
theorem re5 {h₀ h : Heap} {L : Addr} {a b c d e : Addr × Obj} {R : List (Addr × Obj)} (N : News h₀ L h (a :: b :: c :: d :: e :: R)) : News h₀ L h (e :: a :: c :: d :: R) := by
  (repeat (refine npick N (by k_mem) ?_)); exact fun p hp => N p (by repeat (first | exact hp | apply List.Mem.tail))
theorem re4 {h₀ h : Heap} {L : Addr} {a c d e : Addr × Obj} {R : List (Addr × Obj)} (N : News h₀ L h (e :: a :: c :: d :: R)) : News h₀ L h (c :: d :: e :: R) := by
  (repeat (refine npick N (by k_mem) ?_)); exact fun p hp => N p (by repeat (first | exact hp | apply List.Mem.tail))
inductive Mid1 (t2 : Tok) (g : Heap) (L lr la lC : Addr) (rest : List (Addr × Obj)) (s : Shared) : Flow → Shared → Prop
  | mk {h' : Heap} {tk' : Nat} {t4 tm tc : Tok} {n1 : Nat} {q2 q3 qp : Tok} {m0 : Str → Option Value} (hT : TokLo t2 tk') (F : Fr g L h' (fun y => if y = Str.ofString "k" then some (Value.int (-1) tm) else if y = Str.ofString "n" then some (Value.int 6 q3) else if y = Str.ofString "j" then some (Value.int 5 q2) else if y = Str.ofString "i" then some (Value.int 4 t4) else if y = Str.ofString "pat" then some (.str (Str.ofString "*[0-9]") qp) else if y = Str.ofString "res" then some (.ref lr) else if y = Str.ofString "add" then some (.ref la) else if y = Str.ofString "chunks" then some (.ref lC) else m0 y)) (N : News g L h' ((lC, W.listOf #[.str (Str.ofString "0") tc] n1) :: rest)) : Mid1 t2 g L lr la lC rest s .next { s with heap := h', toks := tk' }
inductive Mid2 (t2 : Tok) (g : Heap) (L lr la P : Addr) (bm re : Addr × Obj) (rest : List (Addr × Obj)) (s : Shared) : Flow → Shared → Prop
  | mk {h' : Heap} {tk' : Nat} {gs : Array GenState} {ps' : Array Value} {qs b1 b2 b3 b4 : Tok} {m1 : Str → Option Value} (hT : TokLo t2 tk') (hG : AllBare s.gens → AllBare gs) (hP : TabOk ps'.toList) (F : Fr g L h' (fun y => if y = Str.ofString "stuff" then some (.str (Str.ofString "0-9") qs) else if y = Str.ofString "n" then some (Value.int 6 b1) else if y = Str.ofString "j" then some (Value.int 5 b2) else if y = Str.ofString "i" then some (Value.int 4 b3) else if y = Str.ofString "pat" then some (.str (Str.ofString "*[0-9]") b4) else if y = Str.ofString "res" then some (.ref lr) else if y = Str.ofString "add" then some (.ref la) else m1 y)) (N : News g L h' (bm :: re :: (P, tabObj ps') :: rest)) : Mid2 t2 g L lr la P bm re rest s .next { s with heap := h', gens := gs, toks := tk' }
theorem mid_use {M : Model} {A : Around} {t : Sem Flow} {Q : Flow → Shared → Prop} {E : Value → Shared → Prop} {s : Shared} {t2 : Tok} {g : Heap} {L lr la lC : Addr} {m0 : Str → Option Value} {q1 q2 q3 q4 qp : Tok} {rest : List (Addr × Obj)}
    (F : Fr g L s.heap (fun y => if y = Str.ofString "k" then some (Value.int 3 q4) else if y = Str.ofString "n" then some (Value.int 6 q3) else if y = Str.ofString "j" then some (Value.int 5 q2) else if y = Str.ofString "i" then some (Value.int 2 q1) else if y = Str.ofString "pat" then some (.str (Str.ofString "*[0-9]") qp) else if y = Str.ofString "res" then some (.ref lr) else if y = Str.ofString "add" then some (.ref la) else if y = Str.ofString "chunks" then some (.ref lC) else m0 y)) (N : News g L s.heap ((lC, W.listOf #[] 0) :: rest))
    (h : wpAny M A t (fun f s' => Stp (Mid1 t2 g L lr la lC rest s f s')) E s)
    (k : ∀ (h' : Heap) (tk' : Nat) (t4 tm tc : Tok) (n1 : Nat) (q2 q3 qp : Tok) (m0 : Str → Option Value), TokLo t2 tk' → Fr g L h' (fun y => if y = Str.ofString "k" then some (Value.int (-1) tm) else if y = Str.ofString "n" then some (Value.int 6 q3) else if y = Str.ofString "j" then some (Value.int 5 q2) else if y = Str.ofString "i" then some (Value.int 4 t4) else if y = Str.ofString "pat" then some (.str (Str.ofString "*[0-9]") qp) else if y = Str.ofString "res" then some (.ref lr) else if y = Str.ofString "add" then some (.ref la) else if y = Str.ofString "chunks" then some (.ref lC) else m0 y) → News g L h' ((lC, W.listOf #[.str (Str.ofString "0") tc] n1) :: rest) → Q .next { s with heap := h', toks := tk' }) : wpAny M A t Q E s :=
  wpAny_mono h (fun f s' hf => by
    cases hf with
    | mk a1 a2 a3 => exact k _ _ _ _ _ _ _ _ _ _ a1 a2 a3) fun _ _ e => e
theorem mid_use2 {M : Model} {A : Around} {t : Sem Flow} {Q : Flow → Shared → Prop} {E : Value → Shared → Prop} {s : Shared} {t2 : Tok} {g : Heap} {L lr la lC P : Addr} {m0 : Str → Option Value} {q2 q3 qp t4 tm tc : Tok} {n1 : Nat} {ps : Array Value} {tu bm re : Addr × Obj} {rest : List (Addr × Obj)}
    (F : Fr g L s.heap (fun y => if y = Str.ofString "k" then some (Value.int (-1) tm) else if y = Str.ofString "n" then some (Value.int 6 q3) else if y = Str.ofString "j" then some (Value.int 5 q2) else if y = Str.ofString "i" then some (Value.int 4 t4) else if y = Str.ofString "pat" then some (.str (Str.ofString "*[0-9]") qp) else if y = Str.ofString "res" then some (.ref lr) else if y = Str.ofString "add" then some (.ref la) else if y = Str.ofString "chunks" then some (.ref lC) else m0 y)) (N : News g L s.heap ((lC, W.listOf #[.str (Str.ofString "0") tc] n1) :: tu :: bm :: re :: (P, tabObj ps) :: rest))
    (h : wpAny M A t (fun f s' => Stp (Mid2 t2 g L lr la P bm re rest s f s')) E s)
    (k : ∀ (h' : Heap) (tk' : Nat) (gs : Array GenState) (ps' : Array Value) (qs b1 b2 b3 b4 : Tok) (m1 : Str → Option Value), TokLo t2 tk' → (AllBare s.gens → AllBare gs) → TabOk ps'.toList → Fr g L h' (fun y => if y = Str.ofString "stuff" then some (.str (Str.ofString "0-9") qs) else if y = Str.ofString "n" then some (Value.int 6 b1) else if y = Str.ofString "j" then some (Value.int 5 b2) else if y = Str.ofString "i" then some (Value.int 4 b3) else if y = Str.ofString "pat" then some (.str (Str.ofString "*[0-9]") b4) else if y = Str.ofString "res" then some (.ref lr) else if y = Str.ofString "add" then some (.ref la) else m1 y) → News g L h' (bm :: re :: (P, tabObj ps') :: rest) → Q .next { s with heap := h', gens := gs, toks := tk' }) : wpAny M A t Q E s :=
  wpAny_mono h (fun f s' hf => by
    cases hf with
    | mk a1 a2 a3 a4 a5 => exact k _ _ _ _ _ _ _ _ _ _ a1 a2 a3 a4 a5) fun _ _ e => e
theorem tr_f (w : World) (news : List (Addr × Obj)) (ps : Array Value) (hps : TabOk ps.toList) (t1 t2 t3 : Tok)
   (p : Program) (loose : List Str) (mean : ExcName → Option Value) (mg mb : Str → Option Value) (dp un : Nat) (gd : Option (List Code)) (cn : Str) (cs : Scope) (a : Addr) (ccd : Value) (cl : List (Str × Addr)) (outer : List Env) (A₀ : Around) (base h₀ : Heap) (L : Addr) (m : Str → Option Value) (s : Shared) (Q E : Value → Shared → Prop)
    (B : Below A₀ base outer h₀) (F : Fr h₀ L s.heap m) (X : (hd.heap_1 w.params).In h₀) (CH : CodeHd base 114 110) (N : News h₀ L s.heap ((110, tabObj ps) :: news)) (hn110 : ∀ p ∈ news, p.1 ≠ 110) (T : Top p loose mean mg mb h₀) (hk : cs.kind = .function)
    (hT0 : TokLo t2 s.toks) (hdp : dp + 10 < recursionLimit) (hu : un + 100 < cLine)
    (hret : ∀ (l : Nat) vs n ps' h' tk' gs', (AllBare s.gens → AllBare gs') → StrsAre vs [Str.ofString "many", Str.ofString "[0-9]"] → TabOk ps'.toList → (∀ p ∈ ((110, tabObj ps) :: news), p.1 < l) → Fr h₀ L h' m → News h₀ L h' ((l, listOf vs.toArray n) :: (110, tabObj ps') :: news) → Q (.ref l) { s with heap := h', gens := gs', toks := tk' }) :
    wpAny (model PR w) (ktrTop dp un gd cn cs L a ccd cl outer) (call (.ref 115) [.str (Str.ofString "*[0-9]") t1, .str (Str.ofString "many") t2, .str (Str.ofString "any") t3]) Q E s := by
  unfold PR
  revert X; k_fill; intro X
  refine a_let ?_
  intro K9
  have hK9 : K9.depth = dp := rfl
  have hK9u : K9.units = un := rfl
  refine wpAny_call ?_
  k_dflt ktr_enter
  with_reducible rename Fr _ _ _ _ => FE
  refine fr_let FE ?_
  clear FE
  intro mE FE
  k_steps
  refine Stp.to ?_
  with_reducible rename Fr _ _ _ _ => F9
  have G1 := fr_put F9 (Str.ofString "chunks") (v := some (.ref _)) rfl
  clear F9
  have G2 := fr_put G1 (Str.ofString "add") (v := some (.ref _)) rfl
  clear G1
  have G3 := fr_put G2 (Str.ofString "res") (v := some (.ref _)) rfl
  clear G2
  have G4 := fr_put G3 (Str.ofString "pat") (v := some (.str (Str.ofString "*[0-9]") _)) rfl
  clear G3
  obtain ⟨q1, H1⟩ := fr_int G4 (Str.ofString "i") 2 ⟨_, rfl⟩
  clear G4
  obtain ⟨q2, H2⟩ := fr_int H1 (Str.ofString "j") 5 ⟨_, rfl⟩
  clear H1
  obtain ⟨q3, H3⟩ := fr_int H2 (Str.ofString "n") 6 ⟨_, rfl⟩
  clear H2
  obtain ⟨q4, H4⟩ := fr_int H3 (Str.ofString "k") 3 ⟨_, rfl⟩
  clear H3
  obtain ⟨m0, K1⟩ := fr_hide (fun m y => if y = Str.ofString "k" then some (Value.int 3 q4) else if y = Str.ofString "n" then some (Value.int 6 q3) else if y = Str.ofString "j" then some (Value.int 5 q2) else if y = Str.ofString "i" then some (Value.int 2 q1) else if y = Str.ofString "pat" then some (.str (Str.ofString "*[0-9]") _) else if y = Str.ofString "res" then some (.ref _) else if y = Str.ofString "add" then some (.ref _) else if y = Str.ofString "chunks" then some (.ref _) else m y) H4
  clear H4
  with_reducible rename TokLo _ _ => hTkeep
  have hTk2 := Stp.to hTkeep
  with_reducible repeat (rename TokLo _ _ => zz; clear zz)
  with_reducible repeat (rename @LE.le Nat _ _ _ => zz; clear zz)
  rename News _ _ _ _ => N1
  refine mid_use (t2 := t2) K1 N1 ?mid ?rest
  case rest =>
    clear K1 N1
    intro h9 tk9 t4 tm tc n1 q2 q3 qp m0 hT9 K1 N1
    refine fr_let K1 ?_
    clear K1
    intro mK1 K1
    (try dsimp only)
    intro hle9
    (try dsimp only)
    refine mid_use2 (t2 := t2) K1 N1 ?inner ?outer
    case outer =>
      clear K1 N1
      intro h9 tk9 gs9 ps9 qs b1 b2 b3 b4 m1 hT9 hG9 hps9 K1 N1
      refine fr_let K1 ?_
      clear K1
      intro mK1 K1
      (try dsimp only)
      k_steps
      refine' tr_endB (s := { s with gens := gs9 }) (Q := Q) (news := news) (fun l vs n ps' h' tk' a b c d e => hret l vs n ps' h' tk' gs9 hG9 a b c d e) ?ze1 ?ze2 ?ze3 ?ze4 ?ze5 ?ze6 ?ze7 ?ze8
      case ze1 => k_asm
      case ze2 => k_asm
      case ze3 => k_mem
      case ze4 => k_mem
      case ze5 => exact fun q hq => by repeat (first | exact hq | apply List.Mem.tail)
      case ze6 => exact .cons _ _ (.cons _ _ (.nil))
      case ze7 => assumption
      case ze8 => first | assumption | exact allLt_of (by assumption)
    case inner =>
      k_steps
      with_reducible rename Fr _ _ _ _ => F9
      with_reducible rename News _ _ _ _ => N9
      refine UnrEnd.intro F9 N9 _ (fun p hp => hp) (allLt_ne (by assumption)) ?_
      clear F9 N9
      k_steps
      refine Stp.to ?_
      with_reducible rename Fr _ _ _ _ => F10
      with_reducible rename News _ _ _ _ => N10
      have N11 := re5 N10
      clear N10
      refine gen_T (F2 := fun i v => ∃ t, v = .str (if i = 0 then Str.ofString "0" else Str.ofString "9") t) (its := [.str (Str.ofString "0") _, .str (Str.ofString "9") _]) F10 N11 ?hnP (.head _) (by k_asm) (by kn_code) hps rfl rfl rfl rfl rfl (by decide) rfl rfl rfl ?room ?hiter ?hq ?hret2 (by intro _; rfl)
      case hnP => (intro q hq; simp only [List.mem_cons] at hq; rcases hq with rfl | rfl | rfl | hq <;> first | exact hn110 _ hq | (show @Ne Nat _ _; dsimp only; omega))
      case room => ktr_room
      case hiter =>
        k_steps
      case hq =>
        intro code C' fp wr href
        refine ⟨fun A' E' i v s₂ m₂ hA _ _ _ _ => wpAny_pure ⟨rfl, s₂.heap, s₂.toks, rfl, fun _ _ e => e⟩, fun A' E' i v s₂ m₂ hA hPi _ hN hx _ => ?_⟩
        have hv : (i = 0 ∧ ∃ t, v = .str (Str.ofString "0") t) ∨ (i = 1 ∧ ∃ t, v = .str (Str.ofString "9") t) := by
          rcases i with _ | _ | i
          · exact .inl ⟨rfl, _, (Option.some.inj hPi).symm⟩
          · exact .inr ⟨rfl, _, (Option.some.inj hPi).symm⟩
          · exact absurd hPi (by simp)
        rcases hv with ⟨rfl, t, rfl⟩ | ⟨rfl, t, rfl⟩
        · refine MethodCall_ ?_
          refine MethodCall_ ?_
          refine wpAny_Name (wpAny_loadName_local rfl rfl hN hx ?_) (by decide)
          k_steps
          exact ⟨_, _, rfl, fun _ _ e => e⟩
        · refine MethodCall_ ?_
          refine MethodCall_ ?_
          refine wpAny_Name (wpAny_loadName_local rfl rfl hN hx ?_) (by decide)
          k_steps
          exact ⟨_, _, rfl, fun _ _ e => e⟩
      case hret2 =>
        intro a9 ps9 h9 tk9 gs9 hb9 hT9 F12 N12 X12
        (try dsimp only)
        k_steps
        refine Stp.to ?_
        clear F10 N11
        have X13 : GenK _ _ _ _ _ _ 2 (fun j y => ∃ i : Nat, ([0, 1] : List Nat)[j]? = some i ∧ ∃ t, y = .str (if i = 0 then Str.ofString "0" else Str.ofString "9") t) _ := X12
        clear X12
        refine join_T F12 N12 X13 (fun j => if j = 0 then Str.ofString "0" else Str.ofString "9") ?htx (by decide +kernel) ?hQ
        case htx =>
          rintro j v ⟨i, hi, t, rfl⟩
          rcases j with _ | _ | j
          · obtain rfl := Option.some.inj hi; exact ⟨_, rfl⟩
          · obtain rfl := Option.some.inj hi; exact ⟨_, rfl⟩
          · exact absurd hi (by simp)
        case hQ =>
          clear F12 N12 X13
          intro h13 gs13 t13 k13 hA13 F13 N13 hle13
          rw [show Txt.join (Str.ofString "-") ((List.range 2).map fun j => if j = 0 then Str.ofString "0" else Str.ofString "9") = Str.ofString "0-9" by kernel_rfl]
          k_steps
          refine Stp.to ?_
          with_reducible rename Fr _ _ _ _ => F15
          with_reducible rename News _ _ _ _ => N15
          with_reducible rename TokLo _ _ => hTl
          have G1 := fr_put F15 (Str.ofString "add") (v := some (.ref _)) rfl
          have G2 := fr_put G1 (Str.ofString "res") (v := some (.ref _)) rfl
          have G3 := fr_put G2 (Str.ofString "pat") (v := some (.str (Str.ofString "*[0-9]") _)) rfl
          obtain ⟨q1, H1⟩ := fr_int G3 (Str.ofString "i") 4 ⟨_, rfl⟩
          obtain ⟨q2, H2⟩ := fr_int H1 (Str.ofString "j") 5 ⟨_, rfl⟩
          obtain ⟨q3, H3⟩ := fr_int H2 (Str.ofString "n") 6 ⟨_, rfl⟩
          have H4 := fr_put H3 (Str.ofString "stuff") (v := some (.str (Str.ofString "0-9") _)) rfl
          exact .mk hTl (fun z => hA13 (AllBare.push z hb9)) hT9 H4 (re4 N15)
  case mid =>
    have hT7 : TokLo t2 _ := hTk2
    clear hTk2
    refine whl_start 3 ?_
    k_steps
    with_reducible rename Fr _ _ _ _ => F9
    with_reducible rename News _ _ _ _ => N9
    have G1 := fr_put F9 (Str.ofString "chunks") (v := some (.ref _)) rfl
    have G2 := fr_put G1 (Str.ofString "add") (v := some (.ref _)) rfl
    have G3 := fr_put G2 (Str.ofString "res") (v := some (.ref _)) rfl
    have G4 := fr_put G3 (Str.ofString "pat") (v := some (.str (Str.ofString "*[0-9]") _)) rfl
    obtain ⟨q1, H1⟩ := fr_int G4 (Str.ofString "i") 4 ⟨_, rfl⟩
    obtain ⟨q2, H2⟩ := fr_int H1 (Str.ofString "j") 5 ⟨_, rfl⟩
    obtain ⟨q3, H3⟩ := fr_int H2 (Str.ofString "n") 6 ⟨_, rfl⟩
    obtain ⟨q4, H4⟩ := fr_int H3 (Str.ofString "k") (-1) ⟨_, rfl⟩
    with_reducible rename TokLo _ _ => hTl
    exact Stp.to (.mk hTl H4 N9)
end Mine
end
end
section
open PySem PySem.W PySem.W.X PySem.Spec PySem.Calls PyProof.Rows
set_option maxRecDepth 100000
set_option maxHeartbeats 4000000
namespace Mine.Eng
/-- the quick reading of a code -/
noncomputable abbrev den : Code → Sem PySem.Fin := PySem.W.Fast.tw11892475500146522536 PySem.W.Fast.tw14364793385576792824
noncomputable abbrev eF : Sem Unit := PySem.W.Fast.tw15066281185411960212 0
noncomputable def stkOf (t : Sem PySem.Fin) : List (Code × Pos) → Sem PySem.Fin := Sem.rec (motive := fun _ => List (Code × Pos) → Sem PySem.Fin)
  (pure := fun _ _ => .raise .none) (raise := fun _ _ => .raise .none) (unsupported := fun _ _ => .raise .none) (finish := fun _ _ => .raise .none) (rule := fun _ _ _ _ => .raise .none) («at» := fun _ _ _ _ => .raise .none)
  (load := fun _ _ _ _ _ => .raise .none) (update := fun _ _ _ _ _ _ => .raise .none) (alloc := fun _ _ _ _ => .raise .none) (loadIfAlive := fun _ _ _ _ => .raise .none) (point := fun _ _ _ _ => .raise .none) (register := fun _ _ _ _ => .raise .none)
  (fresh := fun _ _ _ => .raise .none) (ask := fun _ _ _ => .raise .none) (choose := fun _ _ _ _ _ => .raise .none) (os := fun _ _ _ _ _ => .raise .none) (call := fun _ _ _ _ _ _ _ => .raise .none) (handled := fun _ _ _ _ => .raise .none)
  (newGen := fun _ _ _ _ => .raise .none) (genState := fun _ _ _ _ => .raise .none) (resume := fun _ _ _ _ _ _ => .raise .none) («yield» := fun _ _ _ _ _ _ => .raise .none) (stack := fun k _ => k) (fork := fun _ _ _ _ => .raise .none) (thread := fun _ _ _ => .raise .none)
  (await := fun _ _ _ _ _ _ _ => .raise .none) t
structure KF where
  c : Code
  hd : Option Value
  k : Result → Sem PySem.Fin
/-- a call that is shown apart: what it gives, what it leaves -/
structure Ex where
  r : Result
  T : BT → BT
  m : Nat
  i : Nat
structure ExO where
  ag : Bool
  g : Bool
  l : List Value
  κ : List KF
  c₀ : Code
  hd : Option Value
  c : Code
  T : BT
  m : Nat
  i : Nat
  x : Ex
inductive Ob where
  | ld (a b : Nat) (r : Ob)
  | st (k : List (Code × Pos) → Sem PySem.Fin) (R : Sem PySem.Fin) (κ : List KF) (c : Code) (a : Addr) (r : Ob)
  | ex (x : ExO) (r : Ob)
  | rw (t W : Sem PySem.Fin) (r : Ob)
  | sf (t : Sem PySem.Fin) (D : Sem Unit → Sem PySem.Fin) (κ : List KF) (c : Code) (r : Ob)
  | fin (r : Result) (T : BT) (m i : Nat)
  | bad (n : Nat)
noncomputable def okAg (top : Bool) (κ : List KF) (c' : Code) : Bool := match κ with
  | [] => match top with
    | true => false
    | false => c'.quiet
  | _ :: _ => c'.quiet
/-- the store's address: first the ledger's, then what the run makes -/
noncomputable def adr (led : List Nat) (n : Nat) (j : Nat) : Nat := match Nat.blt j led.length with
  | true => led.getD j 0
  | false => n + (j - led.length)
noncomputable def look (K : Frag) (a : Nat) : Option Obj := List.rec (motive := fun _ => Option Obj) none (fun p _ ih => Bool.rec ih (some p.2) (Nat.beq p.1 a)) K
section
variable (S : Setting) (K : Frag) (led : List Nat) (n t₀ : Nat) (hn : Option Value) (top : Bool)
noncomputable abbrev Rest := Code → List KF → BT → Nat → Nat → List Nat → List Ex → List (Sem Unit → Sem PySem.Fin) → Ob
noncomputable def ret (ih : Sem PySem.Fin → Rest) (r : Result) : Rest := fun _ κ T m i sc ex ws => match κ with
  | [] => .fin r T m i
  | q :: κ => ih (q.k r) q.c κ T m i sc ex ws
noncomputable def step (ih : Sem PySem.Fin → Rest) : Sem PySem.Fin → Rest
  | .pure f => match f with
    | .again c' => fun c κ T m i sc ex ws => match sc with
      | [] => .bad 1
      | j :: sc => match okAg top κ c' with
        | true => match j with
          | 0 => ih (den c') c' κ T m i sc ex ws
          | _ + 1 => match ex with
            | [] => .bad 10
            | x :: ex => .ex ⟨true, false, [], κ, c, none, c', T, m, i, x⟩ (ret ih x.r c κ (x.T T) x.m x.i sc ex ws)
        | false => .bad 5
    | .done f => ret ih (.ok f)
  | .raise e => ret ih (.error e)
  | .rule _ k => ih (k ())
  | .at _ k => ih (k ())
  | .point _ k => ih (k ())
  | .ask k => ih (k S)
  | .load a _ k => fun c κ T m i sc ex ws => match sc with
    | [] => .bad 1
    | j :: sc => match j with
      | 0 => match look K a with
        | some o => ih (k o) c κ T m i sc ex ws
        | none => .bad 2
      | j + 1 => match T.get j with
        | some o => .ld a (adr led n j) (ih (k o) c κ T m i sc ex ws)
        | none => .bad 3
  | .update a _ f k => fun c κ T m i sc ex ws => match sc with
    | [] => .bad 1
    | j :: sc => match j with
      | 0 => .bad 4
      | j + 1 => match T.get j with
        | some o => match (f o).isFreed with
          | true => .bad 6
          | false => .ld a (adr led n j) (ih (k ()) c κ (T.set j f) m i sc ex ws)
        | none => .bad 3
  | .alloc o k => fun c κ T m i sc ex ws => match sc with
    | [] => .bad 1
    | _ :: sc => match o.isFreed with
      | true => .bad 6
      | false => match (T.ins (led.length + m) o).get (led.length + m) with
        | some _ => ih (k (n + m)) c κ (T.ins (led.length + m) o) (m + 1) i sc ex ws
        | none => .bad 8
  | .fresh k => fun c κ T m i sc ex ws => ih (k (t₀ + i)) c κ T m (i + 1) sc ex ws
  | .handled own k => match own with
    | false => ih (k hn)
    | true => fun _ _ _ _ _ _ _ _ => .bad 7
  | .stack k => fun c κ T m i sc ex ws => match k [] with
    | .load a _ k' => match sc with
      | [] => .bad 1
      | _ :: sc => match look K a with
        | some o => .st k (k' o) κ c a (ih (k' o) c κ T m i sc ex ws)
        | none => .bad 2
    | _ => .bad 9
  | .call c' hd g l k => fun c κ T m i sc ex ws => match sc with
    | [] => .bad 1
    | j :: sc => match j with
      | 0 => match hd with
        | none => ih (den c') c' (⟨c, hd, k⟩ :: κ) T m i sc ex ws
        | some _ => .bad 11
      | _ + 1 => match ex with
        | [] => .bad 10
        | x :: ex => .ex ⟨false, g, l, κ, c, hd, c', T, m, i, x⟩ (ih (k x.r) c κ (x.T T) x.m x.i sc ex ws)
  | _ => fun _ _ _ _ _ _ _ _ => .bad 13
noncomputable def turnW (ih : Sem PySem.Fin → Rest) (t : Sem PySem.Fin) : Rest := fun c κ T m i sc ex ws => match sc with
  | [] => step S K led n t₀ hn top ih t c κ T m i [] ex ws
  | j :: sc' => match Nat.beq j 999 with
    | true => match ws with
      | [] => .rw t (.raise .none) (.bad 12)
      | W :: ws => .rw t (W (.pure ())) (ih (W (.pure ())) c κ T m i sc' ex ws)
    | false => match Nat.beq j 998 with
      | true => match ws with
        | [] => .rw t (.raise .none) (.bad 12)
        | D :: ws => .sf t D κ c (ih (D (.pure ())) c κ T m i sc' ex ws)
      | false => step S K led n t₀ hn top ih t c κ T m i (j :: sc') ex ws
noncomputable def run : Nat → Sem PySem.Fin → Rest
  | 0 => fun _ _ _ _ _ _ _ _ _ => .bad 20
  | f + 1 => turnW S K led n t₀ hn top (run f)
end
end Mine.Eng
end
section
open PySem PySem.W PySem.W.X PySem.Spec PySem.Calls PyProof.Rows
set_option maxRecDepth 100000
set_option maxHeartbeats 4000000
namespace Mine.Eng
theorem den_eq (c : Code) : den c = denote table c := by
  unfold den
  rw [← PySem.W.Fast.te11892475500146522536, ← PySem.W.Fast.te14364793385576792824, ← PySem.table_eq_tree]
theorem eF_eq : eF = enterFrame := by
  unfold eF
  rw [← PySem.W.Fast.te15066281185411960212]
theorem eF_stack (f : Unit → Sem PySem.Fin) : PySem.W.R.bindR eF f = .stack (stkOf (PySem.W.R.bindR eF f)) := by kernel_rfl
noncomputable def keyL : Value := .str (Str.ofString "sys.recursionlimit") 0
noncomputable def gE (st : List (Code × Pos)) (o : Obj) : Sem Unit := match enterFrame with
  | .stack k => match k st with
    | .load _ _ k' => k' o
    | _ => .pure ()
  | _ => .pure ()
theorem enter_form : enterFrame = .stack fun st => .load cStatics (some keyL) (gE st) := rfl
theorem nsLook_none {o : Obj} {es : Array DictEntry} {ep : Nat} {x : Str} (ho : o.data = .dict es ep) (hk : StrKeys es) (hn : nsFind es x = none) : nsLook x o = .pure none := by
  simp only [nsLook_eq, nsLookByArray, ho]
  have hf : es.find? (·.key.isStr x) = none := by
    cases q : es.find? (·.key.isStr x) with
    | none => rfl
    | some e => rw [nsFind, findBy, q] at hn; cases hn
  have : es.any (·.refKey) = false := by
    rw [Array.any_eq_false']; intro e he; obtain ⟨n, t, h⟩ := hk e he; simp [DictEntry.refKey, h]
  rw [hf]
  simp only [this, Bool.false_eq_true, if_false]
  rfl
theorem gE_pure {A : Around} {st : List (Code × Pos)} {o : Obj} {es : Array DictEntry} {ep : Nat} (l : Lies A st) (hd : A.depth < recursionLimit) (ho : o.data = .dict es ep) (hk : StrKeys es) (hn : nsFind es (Str.ofString "sys.recursionlimit") = none) : gE st o = .pure () := by
  have e1 := nsLook_none ho hk hn
  have n1 := l.near hd 0
  have n2 := l.sum hd
  show Sem.bind (Sem.bind (nsLook (Str.ofString "sys.recursionlimit") o) _) _ = _
  rw [e1]
  show (if nearTheLimitUnderAClaim (st.map (·.1)) ((((st.map (·.1)).map (·.frames)).sum - 0) + ((st.map (·.1)).filter Code.isCreation).length) recursionLimit = true then _ else _) = _
  rw [if_neg (by rw [n1]; exact Bool.false_ne_true)]
  show (if ((st.map (·.1)).map (·.frames)).sum - 0 ≥ recursionLimit then _ else _) = _
  rw [if_neg (by omega)]
  show (if ((st.map (·.1)).map (·.frames)).sum - 0 + ((st.map (·.1)).filter Code.isCreation).length ≥ recursionLimit then _ else _) = _
  rw [if_neg (by omega)]
  rfl
theorem look_in {K : Frag} {a : Addr} {o : Obj} (h : look K a = some o) : K.lookup a = some o := by
  induction K with
  | nil => cases h
  | cons p K ih =>
    have e : look (p :: K) a = @Bool.rec (fun _ => Option Obj) (look K a) (some p.2) (Nat.beq p.1 a) := rfl
    rw [e] at h
    rw [show p = (p.1, p.2) from rfl, List.lookup_cons]
    cases q : Nat.beq p.1 a with
    | true =>
      rw [q] at h
      have := Nat.eq_of_beq_eq_true q
      rw [show (a == p.1) = true by rw [this]; exact beq_self_eq_true _]
      exact h
    | false =>
      rw [q] at h
      have : a ≠ p.1 := fun z => by rw [z] at q; rw [Nat.beq_refl] at q; cases q
      rw [show (a == p.1) = false from beq_eq_false_iff_ne.mpr this]
      exact ih h
structure V where
  prog : Program
  w : World
  K : Frag
  h₀ : Heap
  led : List Nat
  n : Nat
  top : Bool
  A₀ : Around
  R₀ : Result → Shared → Prop
  g : Array GenState
  d : Drawn
  t₀ : Nat
  os : OsState
structure V.Ok (v : V) : Prop where
  size : v.h₀.objs.size = v.n
  K : v.K.In v.h₀
  lt : ∀ a ∈ v.led, a < v.n
  nd : v.led.Nodup
  out : ∀ a o, v.K.lookup a = some o → a ∉ v.led
  lim : v.h₀.NoLimit
  c2 : cStatics ∉ v.led
structure Rp (v : V) (h : Heap) (T : BT) (m : Nat) : Prop where
  size : h.objs.size = v.n + m
  own : ∀ j o, T.get j = some o → j < v.led.length + m ∧ h.get? (adr v.led v.n j) = some o
  keep : ∀ b o, v.h₀.get? b = some o → b ∉ v.led → h.get? b = some o
theorem adr_lt {led : List Nat} {n j : Nat} (h : j < led.length) : adr led n j = led[j] := by
  unfold adr
  rw [show Nat.blt j led.length = true from Nat.ble_eq_true_of_le h]
  simp [h]
theorem adr_ge {led : List Nat} {n j : Nat} (h : led.length ≤ j) : adr led n j = n + (j - led.length) := by
  unfold adr
  cases q : Nat.blt j led.length with
  | true => exact absurd (Nat.le_of_ble_eq_true q) (by omega)
  | false => rfl
theorem adr_inj {led : List Nat} {n i j : Nat} (lt : ∀ a ∈ led, a < n) (nd : led.Nodup) (e : adr led n i = adr led n j) : i = j := by
  by_cases hi : i < led.length
  · by_cases hj : j < led.length
    · rw [adr_lt hi, adr_lt hj] at e
      exact (List.getElem_inj nd).mp e
    · rw [adr_lt hi, adr_ge (by omega)] at e
      have := lt _ (List.getElem_mem hi)
      omega
  · by_cases hj : j < led.length
    · rw [adr_lt hj, adr_ge (by omega)] at e
      have := lt _ (List.getElem_mem hj)
      omega
    · rw [adr_ge (by omega), adr_ge (by omega)] at e
      omega
section
variable {v : V} {h : Heap} {T : BT} {m : Nat}
theorem Rp.base (O : v.Ok) (D : Rp v h T m) {a : Addr} {o : Obj} (e : look v.K a = some o) : h.get? a = some o :=
  D.keep a o (O.K a o (look_in e)) (O.out a o (look_in e))
theorem Rp.lim (O : v.Ok) (D : Rp v h T m) : h.NoLimit := by
  obtain ⟨mc, ⟨o, es, ep, ho, r⟩, q⟩ := O.lim
  exact ⟨mc, ⟨o, es, ep, D.keep _ _ ho O.c2, r⟩, q⟩
theorem Rp.adr_ne (O : v.Ok) {b j : Nat} {o : Obj} (e : v.h₀.get? b = some o) (hb : b ∉ v.led) : adr v.led v.n j ≠ b := by
  intro z
  by_cases hj : j < v.led.length
  · rw [adr_lt hj] at z
    exact hb (z ▸ List.getElem_mem hj)
  · rw [adr_ge (by omega)] at z
    have e2 := Heap.lt_size e
    rw [O.size] at e2
    have e3 : v.n + (j - v.led.length) = b := z
    have e4 : b < v.n := e2
    omega
theorem Rp.alloc (O : v.Ok) (D : Rp v h T m) {o : Obj} (hf : o.isFreed = false) (hg : ((T.ins (v.led.length + m) o).get (v.led.length + m)).isSome = true) : Rp v (h.push o) (T.ins (v.led.length + m) o) (m + 1) := by
  refine ⟨by rw [Heap.size_push, D.size, Nat.add_assoc], fun i o' e => ?_, fun b o' e q => Heap.get?_push_of_some _ (D.keep b o' e q)⟩
  rw [BT.get_ins o T _ hg] at e
  by_cases hi : i = v.led.length + m
  · subst hi
    rw [if_pos rfl] at e
    cases e
    refine ⟨by omega, ?_⟩
    rw [adr_ge (by omega), show v.led.length + m - v.led.length = m by omega, ← D.size]
    exact Heap.get?_push_size _ hf
  · rw [if_neg hi] at e
    have z := D.own i o' e
    exact ⟨by omega, Heap.get?_push_of_some _ z.2⟩
theorem Rp.update (O : v.Ok) (D : Rp v h T m) {j : Nat} {o : Obj} {f : Obj → Obj} (e : T.get j = some o) (hf : (f o).isFreed = false) : Rp v (h.update (adr v.led v.n j) f) (T.set j f) m := by
  have z := D.own _ _ e
  have hs : Heap.SameBut (adr v.led v.n j) h (h.update (adr v.led v.n j) f) := Heap.SameBut.update ..
  refine ⟨by rw [hs.1, D.size], fun i o' e' => ?_, fun b o' e' q => ?_⟩
  · rw [BT.get_set] at e'
    by_cases hi : i = j
    · subst hi
      rw [if_pos rfl, e] at e'
      cases e'
      refine ⟨z.1, ?_⟩
      first | exact Heap.get?_update_self f z.2 hf | exact Heap.get?_update_self _ z.2 hf
    · rw [if_neg hi] at e'
      have y := D.own i o' e'
      exact ⟨y.1, (hs.2 _ fun q => hi (adr_inj O.lt O.nd q)).trans y.2⟩
  · exact (hs.2 b fun z => Rp.adr_ne O e' q z.symm).trans (D.keep b o' e' q)
end
noncomputable abbrev AZ : Around := { handled := none, depth := 900, frames := none, guards := none, units := 200 }
theorem in_weak {Γ : PySem.Ctx} {A B : Around} (h : Γ.In A) (hh : A.handled = B.handled) (hd : A.depth ≤ B.depth) (hf : B.frames = none) (hg : B.guards = none) (hu : A.units ≤ B.units) : Γ.In B :=
  ⟨h.1.trans hh, Nat.le_trans h.2.1 hd, (fun _ e => by rw [hf] at e; cases e), (fun _ e => by rw [hg] at e; cases e), Nat.le_trans h.2.2.2.2 hu⟩
theorem weak {α : Type} {M : Model} {A B : Around} {t : Sem α} {Q : α → Shared → Prop} {E : Value → Shared → Prop} {s : Shared} (hh : A.handled = B.handled) (hd : A.depth ≤ B.depth) (hf : B.frames = none) (hg : B.guards = none) (hu : A.units ≤ B.units) (h : wpAny M B t Q E s) : wpAny M A t Q E s :=
  fun Γ p hΓ => h Γ p (in_weak hΓ hh hd hf hg hu)
theorem weakC {M : Model} {A B : Around} {c : Code} {R : Result → Shared → Prop} {s : Shared} (hh : A.handled = B.handled) (hd : A.depth ≤ B.depth) (hf : B.frames = none) (hg : B.guards = none) (hu : A.units ≤ B.units) (h : codeAny M B c R s) : codeAny M A c R s :=
  fun Γ p hc hΓ => h Γ p hc ⟨hΓ.1.trans hh, Nat.le_trans hΓ.2.1 hd, (fun _ e => by rw [hf] at e; cases e), (fun _ e => by rw [hg] at e; cases e), Nat.le_trans hΓ.2.2.2.2 hu⟩
noncomputable def wpZ {α : Type} (M : Model) (P : PySem.Ctx → Prop) (t : Sem α) (Q : α → Shared → Prop) (E : Value → Shared → Prop) (s : Shared) : Prop :=
  ∀ Γ p, P Γ → Sem.wp M Γ t (fun a _ s' => Q a s') (fun e _ s' => E e s') p s
theorem wpZ_bind {α β : Type} {M : Model} {P : PySem.Ctx → Prop} {A : Around} {m : Sem α} {f : α → Sem β} {Q : β → Shared → Prop} {E : Value → Shared → Prop} {s : Shared} (hP : ∀ Γ, P Γ → Γ.In A)
    (h : wpAny M A m (fun a s' => wpZ M P (f a) Q E s') E s) : wpZ M P (m >>= f) Q E s := fun Γ p hp => by
  rw [Sem.wp_bind']
  exact Sem.wp_mono M Γ m (fun a p' s' h' => h' Γ p' hp) (fun _ _ _ h' => h') p s (h Γ p (hP Γ hp))
noncomputable def BO (v : V) : List KF → Code → Around
  | [], c => match v.top with
    | true => v.A₀
    | false => v.A₀.under c
  | q :: κ, c => ((BO v κ q.c).mark q.hd).under c
noncomputable def AO (v : V) : List KF → Around
  | [] => v.A₀
  | q :: κ => (BO v κ q.c).mark q.hd
noncomputable def isTop (v : V) : List KF → Bool
  | [] => v.top
  | _ :: _ => false
noncomputable def PO (v : V) (κ : List KF) (c : Code) : PySem.Ctx → Prop := match isTop v κ with
  | true => fun Γ => Γ.In v.A₀
  | false => fun Γ => Γ.code = c ∧ Γ.Below (AO v κ)
theorem PO_in {v : V} {κ : List KF} {c : Code} {Γ : PySem.Ctx} (h : PO v κ c Γ) : Γ.In (BO v κ c) := by
  cases κ with
  | nil =>
    unfold PO isTop at h
    unfold BO
    cases q : v.top with
    | true => rw [q] at h; exact h
    | false =>
      rw [q] at h
      obtain ⟨rfl, hb⟩ := h
      exact hb.in
  | cons q κ =>
    obtain ⟨rfl, hb⟩ := h
    exact hb.in
noncomputable def pF (R : Result → Shared → Prop) (b : Bool) (M : Model) (A : Around) : PySem.Fin → Shared → Prop := fun f s => match f with
  | .done f => R (.ok f) s
  | .again c' => b = false ∧ c'.quiet = true ∧ codeAny M A c' R s
noncomputable def V.M (v : V) : Model := model v.prog v.w
noncomputable def endOf (v : V) : List KF → Result → Shared → Prop
  | [] => v.R₀
  | q :: κ => fun r s => wpZ v.M (PO v κ q.c) (q.k r) (pF (endOf v κ) (isTop v κ) v.M (AO v κ)) (fun e s' => endOf v κ (.error e) s') s
noncomputable def Means (v : V) (c : Code) (κ : List KF) (t : Sem PySem.Fin) (s : Shared) : Prop :=
  wpZ v.M (PO v κ c) t (pF (endOf v κ) (isTop v κ) v.M (AO v κ)) (fun e s' => endOf v κ (.error e) s') s
noncomputable def V.at (v : V) (h : Heap) (i : Nat) : Shared := ⟨h, v.g, v.d, v.t₀ + i, v.os⟩
/-- a call shown apart -/
noncomputable def Ext (v : V) (x : ExO) : Prop := match x.ag with
  | true => ∀ (R : Result → Shared → Prop) (h : Heap), Rp v h x.T x.m → (∀ h', Rp v h' (x.x.T x.T) x.x.m → R x.x.r (v.at h' x.x.i)) → codeAny v.M (AO v x.κ) x.c R (v.at h x.i)
  | false => ∀ (R : Result → Shared → Prop) (h : Heap), Rp v h x.T x.m → (∀ h', Rp v h' (x.x.T x.T) x.x.m → R x.x.r (v.at h' x.x.i)) →
      wpAny v.M (BO v x.κ x.c₀) (Sem.call x.c x.hd x.g x.l (fun r => .pure r)) R (fun _ _ => False) (v.at h x.i)
noncomputable def Good (v : V) : Ob → Prop
  | .ld a b r => a = b ∧ Good v r
  | .st k R κ c _ r => k = stkOf (PySem.W.R.bindR eF (fun _ => R)) ∧ Nat.blt (BO v κ c).depth recursionLimit = true ∧ Good v r
  | .ex x r => Ext v x ∧ Good v r
  | .rw t W r => t = W ∧ Good v r
  | .sf t D κ c r => (t = D eF ∧ (∀ k, D (.stack k) = .stack fun st => D (k st)) ∧ (∀ a p k, D (.load a p k) = .load a p fun o => D (k o)) ∧ Nat.blt (BO v κ c).depth recursionLimit = true) ∧ Good v r
  | .fin r T m i => ∀ h, Rp v h T m → v.R₀ r (v.at h i)
  | .bad _ => False
noncomputable def Clean (κ : List KF) : Prop := ∀ q ∈ κ, q.hd = none
theorem BO_handled (v : V) : ∀ (κ : List KF) (c : Code), Clean κ → (BO v κ c).handled = v.A₀.handled
  | [], c, _ => by unfold BO; cases v.top <;> rfl
  | q :: κ, c, h => by
    show q.hd.or (BO v κ q.c).handled = _
    rw [h q (.head _)]
    exact BO_handled v κ q.c fun q' hq => h q' (.tail _ hq)
section
variable {v : V} (O : v.Ok) {hn : Option Value} (hh : v.A₀.handled = hn)
noncomputable abbrev Stp (ih : Sem PySem.Fin → Rest) (v : V) : Prop := ∀ t c κ T m i sc ex ws h, Clean κ → Good v (ih t c κ T m i sc ex ws) → Rp v h T m → Means v c κ t (v.at h i)
variable {ih : Sem PySem.Fin → Rest} (IH : Stp ih v)
include IH
theorem end_sound {r : Result} {c : Code} {κ : List KF} {T : BT} {m i : Nat} {sc : List Nat} {ex : List Ex} {ws : List (Sem Unit → Sem PySem.Fin)} {h : Heap} (Cl : Clean κ)
    (H : Good v (ret ih r c κ T m i sc ex ws)) (D : Rp v h T m) : endOf v κ r (v.at h i) := by
  cases κ with
  | nil => exact H h D
  | cons q κ => exact IH _ _ _ _ _ _ _ _ _ h (fun q' hq => Cl q' (.tail _ hq)) H D
theorem ret_sound {r : Result} {c : Code} {κ : List KF} {t : Sem PySem.Fin} (ht : t = leafOf r) {T : BT} {m i : Nat} {sc : List Nat} {ex : List Ex} {ws : List (Sem Unit → Sem PySem.Fin)} {h : Heap} (Cl : Clean κ)
    (H : Good v (ret ih r c κ T m i sc ex ws)) (D : Rp v h T m) : Means v c κ t (v.at h i) := by
  have key := end_sound IH Cl H D
  cases r with
  | ok f => subst ht; exact fun _ _ _ => key
  | error e => subst ht; exact fun _ _ _ => key
theorem code_sound {c' : Code} {q : KF} {κ : List KF} {T : BT} {m i : Nat} {sc : List Nat} {ex : List Ex} {ws : List (Sem Unit → Sem PySem.Fin)} {h : Heap} (Cl : Clean (q :: κ)) (H : Good v (ih (den c') c' (q :: κ) T m i sc ex ws)) (D : Rp v h T m) :
    codeAny v.M (AO v (q :: κ)) c' (endOf v (q :: κ)) (v.at h i) := by
  have z := IH _ _ _ _ _ _ _ _ _ h Cl H D
  rw [den_eq] at z
  refine codeAny_of_own ?_
  show wpOwn _ _ _ (denote table c') _ _ _
  intro Γ p hc hb
  refine Sem.wp_mono _ Γ _ (fun fin p' s' h' => ?_) (fun _ _ _ h' => h') p _ (z Γ p ⟨hc, hb⟩)
  cases fin with
  | done f => exact h'
  | again c'' => exact ⟨h'.2.1, h'.2.2⟩
theorem again_sound {c' : Code} {κ : List KF} {T : BT} {m i : Nat} {sc : List Nat} {ex : List Ex} {ws : List (Sem Unit → Sem PySem.Fin)} {h : Heap} (Cl : Clean κ) (ht : isTop v κ = false) (H : Good v (ih (den c') c' κ T m i sc ex ws)) (D : Rp v h T m) :
    codeAny v.M (AO v κ) c' (endOf v κ) (v.at h i) := by
  have z := IH _ _ _ _ _ _ _ _ _ h Cl H D
  rw [den_eq] at z
  refine codeAny_of_own ?_
  show wpOwn _ _ _ (denote table c') _ _ _
  intro Γ p hc hb
  have hp : PO v κ c' Γ := by unfold PO; rw [ht]; exact ⟨hc, hb⟩
  refine Sem.wp_mono _ Γ _ (fun fin p' s' h' => ?_) (fun _ _ _ h' => h') p _ (z Γ p hp)
  cases fin with
  | done f => exact h'
  | again c'' => exact ⟨h'.2.1, h'.2.2⟩
include O hh
theorem step_sound : Stp (step ⟨v.prog, v.w.params⟩ v.K v.led v.n v.t₀ hn v.top ih) v := by
  intro t c κ T m i sc ex ws h Cl H D
  cases t with
  | pure f =>
    cases f with
    | done f => exact ret_sound IH rfl Cl H D
    | again c' =>
      cases sc with
      | nil => exact H.elim
      | cons j sc =>
        cases q : okAg v.top κ c' with
        | false => unfold step at H; dsimp only at H; rw [q] at H; exact H.elim
        | true =>
          have hq : isTop v κ = false ∧ c'.quiet = true := by
            cases κ with
            | nil =>
              unfold okAg at q
              dsimp only at q
              cases w : v.top with
              | true => rw [w] at q; cases q
              | false => rw [w] at q; exact ⟨w, q⟩
            | cons q' κ => exact ⟨rfl, q⟩
          cases j with
          | zero =>
            unfold step at H
            dsimp only at H
            rw [q] at H
            exact fun _ _ _ => ⟨hq.1, hq.2, again_sound IH Cl hq.1 H D⟩
          | succ j =>
            cases ex with
            | nil => unfold step at H; dsimp only at H; rw [q] at H; exact H.elim
            | cons x ex =>
              unfold step at H
              dsimp only at H
              rw [q] at H
              obtain ⟨X, H⟩ := H
              exact fun _ _ _ => ⟨hq.1, hq.2, X _ h D fun h' D' => end_sound IH Cl H D'⟩
  | raise e => exact ret_sound IH rfl Cl H D
  | rule tag k => exact fun Γ p hp => IH _ _ _ _ _ _ _ _ _ h Cl H D Γ p hp
  | «at» q k => exact fun Γ p hp => IH _ _ _ _ _ _ _ _ _ h Cl H D Γ q hp
  | point l k => exact fun Γ p hp => IH _ _ _ _ _ _ _ _ _ h Cl H D Γ p hp
  | ask k => exact fun Γ p hp => IH _ _ _ _ _ _ _ _ _ h Cl H D Γ p hp
  | load a q k =>
    cases sc with
    | nil => exact H.elim
    | cons j sc =>
      cases j with
      | zero =>
        unfold step at H
        dsimp only at H
        cases e : look v.K a with
        | none => rw [e] at H; exact H.elim
        | some o =>
          rw [e] at H
          exact wpZ_bind (m := loadPart a q) (f := k) (fun _ => PO_in) (wpAny_loadPart (D.base O e) (IH _ _ _ _ _ _ _ _ _ h Cl H D))
      | succ j =>
        unfold step at H
        dsimp only at H
        cases e : T.get j with
        | none => rw [e] at H; exact H.elim
        | some o =>
          rw [e] at H
          obtain ⟨ha, H⟩ := H
          have ho := (D.own _ _ e).2
          rw [← ha] at ho
          exact wpZ_bind (m := loadPart a q) (f := k) (fun _ => PO_in) (wpAny_loadPart ho (IH _ _ _ _ _ _ _ _ _ h Cl H D))
  | update a q f k =>
    cases sc with
    | nil => exact H.elim
    | cons j sc =>
      cases j with
      | zero => exact H.elim
      | succ j =>
        unfold step at H
        dsimp only at H
        cases e : T.get j with
        | none => rw [e] at H; exact H.elim
        | some o =>
          rw [e] at H
          dsimp only at H
          cases hf : (f o).isFreed with
          | true => rw [hf] at H; exact H.elim
          | false =>
            rw [hf] at H
            obtain ⟨ha, H⟩ := H
            have ho := (D.own _ _ e).2
            have D' := D.update O e hf
            rw [← ha] at ho D'
            have z := IH _ _ _ _ _ _ _ _ _ _ Cl H D'
            exact wpZ_bind (m := updatePart a q f) (f := k) (fun _ => PO_in) (wpAny_updatePart ho z)
  | alloc o k =>
   cases sc with
   | nil => exact H.elim
   | cons j sc =>
    unfold step at H
    dsimp only at H
    cases hf : o.isFreed with
    | true => rw [hf] at H; exact H.elim
    | false =>
      rw [hf] at H
      dsimp only at H
      cases e : (T.ins (v.led.length + m) o).get (v.led.length + m) with
      | none => rw [e] at H; exact H.elim
      | some o' =>
        rw [e] at H
        have D' := D.alloc O hf (by rw [e]; rfl)
        have z := IH _ _ _ _ _ _ _ _ _ _ Cl H D'
        have ea : h.objs.size = v.n + m := D.size
        exact wpZ_bind (m := alloc o) (f := k) (fun _ => PO_in) (wpAny_alloc (by
          show wpZ _ _ (k h.objs.size) _ _ _
          rw [ea]; exact z))
  | fresh k => exact fun Γ p hp => IH _ _ _ _ _ _ _ _ _ h Cl H D Γ p hp
  | handled own k =>
    cases own with
    | true => exact H.elim
    | false =>
      refine wpZ_bind (m := handled) (f := k) (fun _ => PO_in (c := c)) (wpAny_handled ?_)
      rw [BO_handled _ _ _ Cl, hh]
      exact IH _ _ _ _ _ _ _ _ _ h Cl H D
  | stack k =>
    unfold step at H
    dsimp only at H
    cases e0 : k [] with
    | load a q k' =>
      rw [e0] at H
      dsimp only at H
      cases sc with
      | nil => exact H.elim
      | cons j sc =>
        dsimp only at H
        cases e1 : look v.K a with
        | none => rw [e1] at H; exact H.elim
        | some o =>
          rw [e1] at H
          obtain ⟨e, hd, H⟩ := H
          have z := IH _ _ _ _ _ _ _ _ _ h Cl H D
          show wpZ _ _ (Sem.stack k) _ _ _
          rw [e, ← eF_stack, ← PySem.W.R.bindR_eq, eF_eq]
          exact wpZ_bind (fun _ => PO_in) (wpAny_enterFrame (D.lim O) (Nat.le_of_ble_eq_true hd) z)
    | _ => rw [e0] at H; exact H.elim
  | call c' hd g l k =>
    cases sc with
    | nil => exact H.elim
    | cons j sc =>
      cases j with
      | zero =>
        cases hd with
        | some _ => exact H.elim
        | none =>
          have z := code_sound IH (q := ⟨c, none, k⟩) (κ := κ) (fun q hq => by
            rcases List.mem_cons.mp hq with rfl | hq
            · rfl
            · exact Cl q hq) H D
          exact fun Γ p hp => wpCode_mono (fun _ _ q => q Γ p hp) (z _ p rfl ((PO_in hp).enter c' none p (fun e => nomatch e)))
      | succ j =>
        cases ex with
        | nil => exact H.elim
        | cons x ex =>
          obtain ⟨X, H⟩ := H
          refine wpZ_bind (m := Sem.call c' hd g l (fun r => .pure r)) (f := k) (fun _ => PO_in) (wpAny_mono (X (fun r s' => Means v c κ (k r) s') h D fun h' D' => ?_) (fun _ _ z => z) (fun _ _ z => z.elim))
          exact IH _ _ _ _ _ _ _ _ _ h' Cl H D'
  | _ => exact H.elim
theorem sf_sound {D : Sem Unit → Sem PySem.Fin} {κ : List KF} {c : Code} {h : Heap} {i : Nat} (h1 : ∀ k, D (.stack k) = .stack fun st => D (k st)) (h2 : ∀ a p k, D (.load a p k) = .load a p fun o => D (k o)) (hl : h.NoLimit) (hd : (BO v κ c).depth < recursionLimit)
    (H : Means v c κ (D (.pure ())) (v.at h i)) : Means v c κ (D enterFrame) (v.at h i) := by
  intro Γ p hp
  have l := lies_of (p := p) (PO_in hp)
  rw [enter_form, h1]
  show Sem.wp _ Γ (D (.load _ _ (gE ((Γ.code, p) :: Γ.below)))) _ _ _ _
  rw [h2]
  obtain ⟨mc, ⟨o, es, ep, ho, hdt, hk, hf⟩, hn⟩ := hl
  have y : wpZ v.M (fun Γ' => Γ' = Γ) (loadPart cStatics (some keyL) >>= fun o => D (gE ((Γ.code, p) :: Γ.below) o)) (pF (endOf v κ) (isTop v κ) v.M (AO v κ)) (fun e s' => endOf v κ (.error e) s') (v.at h i) := by
    refine wpZ_bind (A := BO v κ c) (fun Γ' e => by subst e; exact PO_in hp) (wpAny_loadPart ho ?_)
    rw [gE_pure l hd hdt hk (by rw [hf]; exact hn)]
    intro Γ' p' e
    subst e
    exact H Γ' p' hp
  exact y Γ p rfl
theorem turn_sound : Stp (turnW ⟨v.prog, v.w.params⟩ v.K v.led v.n v.t₀ hn v.top ih) v := by
  intro t c κ T m i sc ex ws h Cl H D
  cases sc with
  | nil => exact step_sound O hh IH t c κ T m i [] ex ws h Cl H D
  | cons j sc =>
    unfold turnW at H
    dsimp only at H
    cases q : Nat.beq j 999 with
    | false =>
      rw [q] at H
      dsimp only at H
      cases q2 : Nat.beq j 998 with
      | false =>
        rw [q2] at H
        exact step_sound O hh IH t c κ T m i _ ex ws h Cl H D
      | true =>
        rw [q2] at H
        cases ws with
        | nil => exact H.2.elim
        | cons W ws =>
          obtain ⟨⟨e, h1, h2, hd⟩, H⟩ := H
          rw [e, eF_eq]
          exact sf_sound O hh IH h1 h2 (D.lim O) (Nat.le_of_ble_eq_true hd) (IH _ _ _ _ _ _ _ _ _ h Cl H D)
    | true =>
      rw [q] at H
      cases ws with
      | nil => exact H.2.elim
      | cons W ws =>
        obtain ⟨e, H⟩ := H
        rw [e]
        exact IH _ _ _ _ _ _ _ _ _ h Cl H D
end
theorem run_sound {v : V} (O : v.Ok) {hn : Option Value} (hh : v.A₀.handled = hn) : ∀ f, Stp (run ⟨v.prog, v.w.params⟩ v.K v.led v.n v.t₀ hn v.top f) v
  | 0 => fun _ _ _ _ _ _ _ _ _ _ _ H _ => H.elim
  | f + 1 => turn_sound O hh (run_sound O hh f)
end Mine.Eng
end
section
open PySem PySem.W PySem.W.X PySem.Spec PySem.Calls PyProof.Rows
set_option maxRecDepth 100000
set_option maxHeartbeats 4000000
namespace Mine.Eng
noncomputable def lds (o : Ob) : List (Nat × Nat) := Ob.rec (motive := fun _ => List (Nat × Nat)) (fun a b _ ih => (a, b) :: ih) (fun _ _ _ _ _ _ ih => ih) (fun _ _ ih => ih) (fun _ _ _ ih => ih) (fun _ _ _ _ _ ih => ih) (fun _ _ _ _ => []) (fun _ => []) o
noncomputable abbrev StT := (List (Code × Pos) → Sem PySem.Fin) × Sem PySem.Fin × List KF × Code
noncomputable def sts (o : Ob) : List StT := Ob.rec (motive := fun _ => List StT) (fun _ _ _ ih => ih) (fun t R κ c _ _ ih => (t, R, κ, c) :: ih) (fun _ _ ih => ih) (fun _ _ _ ih => ih) (fun _ _ _ _ _ ih => ih) (fun _ _ _ _ => []) (fun _ => []) o
noncomputable abbrev SfT := Sem PySem.Fin × (Sem Unit → Sem PySem.Fin) × List KF × Code
noncomputable def sfs (o : Ob) : List SfT := Ob.rec (motive := fun _ => List SfT) (fun _ _ _ ih => ih) (fun _ _ _ _ _ _ ih => ih) (fun _ _ ih => ih) (fun _ _ _ ih => ih) (fun t D κ c _ ih => (t, D, κ, c) :: ih) (fun _ _ _ _ => []) (fun _ => []) o
noncomputable def exs (o : Ob) : List ExO := Ob.rec (motive := fun _ => List ExO) (fun _ _ _ ih => ih) (fun _ _ _ _ _ _ ih => ih) (fun x _ ih => x :: ih) (fun _ _ _ ih => ih) (fun _ _ _ _ _ ih => ih) (fun _ _ _ _ => []) (fun _ => []) o
noncomputable def fin (o : Ob) : Option (Result × BT × Nat × Nat) := Ob.rec (motive := fun _ => Option (Result × BT × Nat × Nat)) (fun _ _ _ ih => ih) (fun _ _ _ _ _ _ ih => ih) (fun _ _ ih => ih) (fun _ _ _ ih => ih) (fun _ _ _ _ _ ih => ih) (fun r T m i => some (r, T, m, i)) (fun _ => none) o
noncomputable def rws (o : Ob) : List (Sem PySem.Fin × Sem PySem.Fin) := Ob.rec (motive := fun _ => List (Sem PySem.Fin × Sem PySem.Fin)) (fun _ _ _ ih => ih) (fun _ _ _ _ _ _ ih => ih) (fun _ _ ih => ih) (fun t W _ ih => (t, W) :: ih) (fun _ _ _ _ _ ih => ih) (fun _ _ _ _ => []) (fun _ => []) o
/-- the tree at the first mark -/
noncomputable def mkT (o : Ob) : Sem PySem.Fin := Ob.rec (motive := fun _ => Sem PySem.Fin) (fun _ _ _ ih => ih) (fun _ _ _ _ _ _ ih => ih) (fun _ _ ih => ih) (fun t _ _ _ => t) (fun t _ _ _ _ _ => t) (fun _ _ _ _ => .raise .none) (fun _ => .raise .none) o
noncomputable def ex0 : ExO := ⟨false, false, [], [], .builtin "" ⟨[], []⟩, none, .builtin "" ⟨[], []⟩, .nil, 0, 0, ⟨.ok .next, id, 0, 0⟩⟩
noncomputable def exAt (o : Ob) (k : Nat) : ExO := (exs o).getD k ex0
noncomputable def fiT (o : Ob) : BT := match fin o with
  | some (_, T, _, _) => T
  | none => .nil
theorem good_of {v : V} {o : Ob} {r : Result} {T : BT} {m i : Nat} (hl : (lds o).map (·.1) = (lds o).map (·.2))
    (hs : ∀ q ∈ sts o, q.1 = stkOf (PySem.W.R.bindR eF (fun _ => q.2.1)) ∧ Nat.blt (BO v q.2.2.1 q.2.2.2).depth recursionLimit = true)
    (hq : ∀ q ∈ sfs o, (q.1 = q.2.1 eF ∧ (∀ k, q.2.1 (.stack k) = .stack fun st => q.2.1 (k st)) ∧ (∀ a p k, q.2.1 (.load a p k) = .load a p fun o => q.2.1 (k o)) ∧ Nat.blt (BO v q.2.2.1 q.2.2.2).depth recursionLimit = true))
    (hx : ∀ x ∈ exs o, Ext v x) (hw : ∀ q ∈ rws o, q.1 = q.2) (hf : fin o = some (r, T, m, i)) (hr : ∀ h, Rp v h T m → v.R₀ r (v.at h i)) : Good v o := by
  induction o with
  | ld a b o ih =>
    have hl' : a :: (lds o).map (·.1) = b :: (lds o).map (·.2) := hl
    exact ⟨(List.cons.inj hl').1, ih (List.cons.inj hl').2 hs hq hx hw hf⟩
  | st t R κ c a o ih => exact ⟨(hs (t, R, κ, c) (.head _)).1, (hs (t, R, κ, c) (.head _)).2, ih hl (fun q h => hs q (.tail _ h)) hq hx hw hf⟩
  | ex x o ih => exact ⟨hx x (.head _), ih hl hs hq (fun y hy => hx y (.tail _ hy)) hw hf⟩
  | rw t W o ih => exact ⟨hw (t, W) (.head _), ih hl hs hq hx (fun q h => hw q (.tail _ h)) hf⟩
  | sf t D κ c o ih => exact ⟨hq (t, D, κ, c) (.head _), ih hl hs (fun q h => hq q (.tail _ h)) hx hw hf⟩
  | fin r' T' m' i' =>
    have e := Option.some.inj hf
    cases e
    exact hr
  | bad k => cases hf
noncomputable def postV (Q E : Value → Shared → Prop) : Result → Shared → Prop := fun r s' => match r with
  | .ok (.ret x) => Q x s'
  | .ok _ => False
  | .error e => E e s'
noncomputable abbrev valT (t : Sem Value) : Sem PySem.Fin := PySem.W.R.bindR t fun x => .pure (.done (.ret x))
theorem startV {v : V} (O : v.Ok) {hn : Option Value} (hh : v.A₀.handled = hn) (ht : v.top = true) {Q E : Value → Shared → Prop} (hR : v.R₀ = postV Q E)
    {t : Sem Value} {N : Nat} {c : Code} {T : BT} {m i : Nat} {h : Heap} {sc : List Nat} {ex : List Ex} {ws : List (Sem Unit → Sem PySem.Fin)} (D : Rp v h T m)
    (H : Good v (run ⟨v.prog, v.w.params⟩ v.K v.led v.n v.t₀ hn v.top N (valT t) c [] T m i sc ex ws)) : wpAny (model v.prog v.w) v.A₀ t Q E (v.at h i) := by
  have z := run_sound O hh N _ _ _ _ _ _ _ _ _ h (show Clean [] from fun _ hq => nomatch hq) H D
  intro Γ p hΓ
  have hp : PO v [] c Γ := by unfold PO isTop; rw [ht]; exact hΓ
  have y := z Γ p hp
  unfold valT at y
  rw [← PySem.W.R.bindR_eq] at y
  have y2 : Sem.wp v.M Γ (t >>= fun x => Sem.pure (PySem.Fin.done (Flow.ret x))) _ _ p (v.at h i) := y
  rw [Sem.wp_bind'] at y2
  refine Sem.wp_mono _ Γ t (fun a p' s' h' => ?_) (fun e p' s' h' => ?_) p _ y2
  · have h2 : v.R₀ (.ok (.ret a)) s' := h'
    rw [hR] at h2
    exact h2
  · have h2 : v.R₀ (.error e) s' := h'
    rw [hR] at h2
    exact h2
theorem startC {v : V} (O : v.Ok) {hn : Option Value} (hh : v.A₀.handled = hn) (ht : v.top = false) {t : Sem PySem.Fin} {c : Code} (hc : denote table c = t) {N : Nat} {T : BT} {m i : Nat} {h : Heap} {sc : List Nat} {ex : List Ex} {ws : List (Sem Unit → Sem PySem.Fin)} (D : Rp v h T m)
    (H : Good v (run ⟨v.prog, v.w.params⟩ v.K v.led v.n v.t₀ hn v.top N t c [] T m i sc ex ws)) : codeAny (model v.prog v.w) v.A₀ c v.R₀ (v.at h i) := by
  have z := run_sound O hh N _ _ _ _ _ _ _ _ _ h (show Clean [] from fun _ hq => nomatch hq) H D
  refine codeAny_of_own ?_
  show wpOwn _ _ _ (denote table c) _ _ _
  rw [hc]
  intro Γ p hc hb
  have hp : PO v [] c Γ := by unfold PO isTop; rw [ht]; exact ⟨hc, hb⟩
  refine Sem.wp_mono _ Γ _ (fun fin p' s' h' => ?_) (fun _ _ _ h' => h') p _ (z Γ p hp)
  cases fin with
  | done f => exact h'
  | again c'' => exact ⟨h'.2.1, h'.2.2⟩
end Mine.Eng
end
section
open PySem PySem.W
set_option maxRecDepth 100000
set_option maxHeartbeats 400000
namespace Mine
/-- an equation that is no proposition: a definition may hold it without its being laid apart -/
inductive EqT {α : Type} : α → α → Type
  | refl (a : α) : EqT a a
theorem EqT.eq {α : Type} {a b : α} (h : EqT a b) : a = b := by cases h; rfl
noncomputable def flt0 (self : Value) (mro : List Value) : List Value := R.filterR (fun x => @bne Value (@instBEqOfDecidableEq Value Fast.tw7966671052430208091) x self) mro
theorem flt0_eq (self : Value) (mro : List Value) : R.filterR (fun x => @bne Value (@instBEqOfDecidableEq Value Fast.tw7966671052430208091) x self) mro = flt0 self mro := rfl
noncomputable def newQ (args : Args) : (t : (Value → List Value → List Value) → Sem PySem.Fin) × EqT (Fast.tw4202317264376624991 args) (t flt0) := by
  refine ⟨?t, ?h⟩
  case h =>
    delta Fast.tw4202317264376624991
    dsimp -zeta -beta -eta -iota -proj -decide only [flt0_eq]
    generalize flt0 = f
    exact EqT.refl _
noncomputable def newP (flt : Value → List Value → List Value) (args : Args) : {t : Sem PySem.Fin // (∀ self mro, R.filterR (fun x => @bne Value (@instBEqOfDecidableEq Value Fast.tw7966671052430208091) x self) mro = flt self mro) → Fast.tw4202317264376624991 args = t} :=
  ⟨(newQ args).1 flt, fun h => (newQ args).2.eq.trans (congrArg (newQ args).1 (funext fun a => funext fun b => h a b))⟩
end Mine
end
section
open PySem PySem.W
set_option maxRecDepth 100000
set_option maxHeartbeats 400000
namespace Mine
noncomputable def bcF : Sem Unit := Fast.tw15066281185411960212 0
theorem bcF_eq : Fast.tw15066281185411960212 0 = bcF := rfl
noncomputable def bcQ (name qual : Str) (given : List Value) (kw : List (Str × Value)) (body : List Stmt) (scope : Scope) (statics : List Str) (fl : Nat) (env : Env) (pos : Pos) (tp : Option Value) :
    (t : Sem Unit → Sem Value) × EqT (Fast.tw1785580099245652887 name qual given kw body scope statics fl env pos tp) (t bcF) := by
  refine ⟨?t, ?h⟩
  case h =>
    delta Fast.tw1785580099245652887
    dsimp -zeta -beta -eta -iota -proj -decide only [bcF_eq]
    generalize bcF = f
    exact EqT.refl _
noncomputable def bcP (ef : Sem Unit) (name qual : Str) (given : List Value) (kw : List (Str × Value)) (body : List Stmt) (scope : Scope) (statics : List Str) (fl : Nat) (env : Env) (pos : Pos) (tp : Option Value) :
    {t : Sem Value // Fast.tw15066281185411960212 0 = ef → Fast.tw1785580099245652887 name qual given kw body scope statics fl env pos tp = t} :=
  ⟨(bcQ name qual given kw body scope statics fl env pos tp).1 ef, fun h => (bcQ name qual given kw body scope statics fl env pos tp).2.eq.trans (congrArg _ h)⟩
end Mine
end
section
open PySem PySem.W PySem.W.X PySem.Spec PySem.Calls PyProof.Rows
set_option maxRecDepth 100000
set_option maxHeartbeats 4000000
namespace Mine.Eng
section
variable {w : World} {A : Around} {E : Value → Shared → Prop} {h : Heap} {g : Array GenState} {d : Drawn} {t : Nat} {os : OsState} {C : Nat} {oC : Obj} {cd : ClassData}
theorem mro_looks (hC : h.get? C = some oC) (hd : oC.data = .cls cd) : Looks (model PR w) h (mroOf (.ref C)) cd.mro := by
  unfold mroOf classData
  refine Looks.andThen ?_ (Looks.of_pure rfl)
  refine Looks.andThen (Looks.ld hC) ?_
  rw [hd]
  exact Looks.now
theorem sub_own (hC : h.get? C = some oC) (hd : oC.data = .cls cd) (hm : cd.mro = [.ref C, .type "object"]) {b : Value} (hb : b = .ref C ∨ b = .type "object") : Looks (model PR w) h (isSubtype (.ref C) b) true := by
  unfold isSubtype
  refine Looks.andThen (mro_looks hC hd) ?_
  rw [hm]
  rcases hb with rfl | rfl
  · exact Looks.of_pure (by simp)
  · exact Looks.of_pure (by simp)
theorem sub_at (hC : h.get? C = some oC) (hd : oC.data = .cls cd) (hm : cd.mro = [.ref C, .type "object"]) {x : String} (hx : x = "object") : Looks (model PR w) h (isSubtype (.ref C) (.type x)) true := by subst hx; exact sub_own hC hd hm (.inr rfl)
theorem isType_own (hC : h.get? C = some oC) (hd : oC.data = .cls cd) : Looks (model PR w) h (isType (.ref C)) true := by
  unfold isType loadHead
  refine Looks.andThen (Looks.ld hC) ?_
  rw [hd]
  exact Looks.now
theorem no_opaque {K : Frag} (X : K.In h) (hp : peek K ⟨PR, w.params⟩ anyOpaqueLoaded = some false) : Looks (model PR w) h (opaqueClassAbove (.ref C)) none := by
  unfold opaqueClassAbove
  refine Looks.andThen (Looks.of_peek X hp) ?_
  exact Looks.of_pure rfl
theorem call_super {Q : Value → Shared → Prop} (hC : h.get? C = some oC) (hd : oC.data = .cls cd) (hm : cd.mro = [.ref C, .type "object"])
    (hq : Q (.ref h.objs.size) ⟨(((h.push { cls := .type "super", data := .fields #[.none, .none, .none] }).update h.objs.size (Obj.mapFields (·.setIfInBounds 0 (.ref C)))).update h.objs.size (Obj.mapFields (·.setIfInBounds 1 (.ref C)))).update h.objs.size (Obj.mapFields (·.setIfInBounds 2 (.ref C))), g, d, t, os⟩) :
    wpAny (model PR w) A (call (.type "super") [.ref C, .ref C]) Q E ⟨h, g, d, t, os⟩ := by
  refine ks_callType_codesW (Q₁ := fun obj s₁ => obj = .ref h.objs.size ∧ s₁ = ⟨h.push { cls := .type "super", data := .fields #[.none, .none, .none] }, g, d, t, os⟩) F.ks_called_super (ks_wpAny_checkTypeCall_super hC hd) F.ks_entry_super_init
    (ks_code_super_new _ _ ⟨rfl, rfl⟩) fun obj s₁ h₁ => ?_
  obtain ⟨rfl, rfl⟩ := h₁
  have up : ∀ y o, h.get? y = some o → (h.push { cls := .type "super", data := .fields #[.none, .none, .none] }).get? y = some o := fun y o e => Heap.get?_push_of_some _ e
  have hso : (h.push { cls := .type "super", data := .fields #[.none, .none, .none] }).get? h.objs.size = some { cls := .type "super", dict := none, data := .fields #[.none, .none, .none], slots := #[] } := Heap.get?_push_at rfl rfl
  have hC' := up _ _ hC
  have hsub := sub_own (w := w) hC' hd hm (.inl rfl)
  refine ⟨⟨_, hso, rfl⟩, F.ks_initArgs_super _ _ _, ?_⟩
  unfold Builtin.«super.__init__» noKeywords
  repeat (first | (with_reducible refine ks_wpAny_isType_cls hC' hd ?_) | (with_reducible refine Looks.at hsub ?_) | wp_step)
  all_goals exact ⟨rfl, hq⟩
theorem own_isub : classOwn (.type "object") (Str.ofString "__init_subclass__") = pure (some (.builtin "object.__init_subclass__")) := by kernel_rfl
theorem type_isub : typeOf (.builtin "object.__init_subclass__") = pure (.type "classmethod_descriptor") := by show builtinType _ = _; rw [builtinType_eq_fast]; kernel_rfl
theorem slot_cd_get : Slot "classmethod_descriptor" "__get__" "classmethod_descriptor.__get__" :=
  .of (owner := "classmethod_descriptor") (n := "__get__") (by rw [typeLookup_type, builtinLookup_eq_fast]; kernel_rfl) (by decide +kernel) (by decide +kernel) (by decide +kernel)
    (by first | exact .inl (by decide +kernel) | exact .inr (by decide +kernel)) (by rw [isSubtype_type]; kernel_rfl)
theorem entry_cd_get : entryFor table "classmethod_descriptor.__get__" = some Builtin.«classmethod_descriptor.__get__» := entryFor_of_tree (by kernel_rfl)
theorem args_cd_get (a b c : Value) : argsOk "classmethod_descriptor.__get__" ⟨[a, b, c], []⟩ := by unfold argsOk; kernel_rfl
theorem ga_super {K : Frag} {so : Nat} {tk : Tok} {Q : PySem.Fin → Shared → Prop} (X : K.In h) (hp : peek K ⟨PR, w.params⟩ anyOpaqueLoaded = some false) (hC : h.get? C = some oC) (hd : oC.data = .cls cd) (hm : cd.mro = [.ref C, .type "object"])
    (hso : h.get? so = some { cls := .type "super", dict := none, data := .fields #[.ref C, .ref C, .ref C], slots := #[] })
    (hq : Q (.done (.ret (.ref h.objs.size))) ⟨h.push { cls := .type "builtin_function_or_method", data := .fields #[.builtin "object.__init_subclass__", .ref C] }, g, d, t, os⟩) :
    wpAny (model PR w) A (Builtin.«super.__getattribute__» ⟨[.ref so, .str (Str.ofString "__init_subclass__") tk], []⟩) Q E ⟨h, g, d, t, os⟩ := by
  have hno := no_opaque (w := w) (C := C) X hp
  have hM := mro_looks (w := w) hC hd
  have hsub := sub_own (w := w) hC hd hm (.inr rfl)
  have hn : (Str.ofString "__init_subclass__" == ("__class__" : Str)) = false := by decide +kernel
  have hlk := slot_cd_get.lookup
  have hdt : ({ cls := .type "super", dict := none, data := .fields #[.ref C, .ref C, .ref C], slots := #[] } : Obj).data = .fields #[.ref C, .ref C, .ref C] := rfl
  have f0 : (#[.ref C, .ref C, .ref C] : Array Value)[0]? = some (.ref C) := rfl
  have f1 : (#[.ref C, .ref C, .ref C] : Array Value)[1]? = some (.ref C) := rfl
  have f2 : (#[.ref C, .ref C, .ref C] : Array Value)[2]? = some (.ref C) := rfl
  have hl : (cd.mro.dropWhile (· != .ref C)).drop 1 = [.type "object"] := by rw [hm]; simp
  unfold Builtin.«super.__getattribute__»
  repeat (first
    | (with_reducible refine wpAny_field hso hdt f0 ?_) | (with_reducible refine wpAny_field hso hdt f1 ?_) | (with_reducible refine wpAny_field hso hdt f2 ?_)
    | (with_reducible refine ks_wpAny_notOpaque hno ?_)
    | (with_reducible refine Looks.at hM ?_; rw [hl])
    | (with_reducible refine wpAny_of_eq own_isub ?_) | (with_reducible refine wpAny_of_eq type_isub ?_) | (with_reducible refine wpAny_of_eq hlk ?_)
    | (simp only [hn, Bool.or_false, Bool.false_eq_true, if_false])
    | wp_step
    | dsimp only)
  rw [if_pos (show (Value.ref C == Value.ref C) = true from beq_self_eq_true _)]
  refine codeAny_call_builtin slot_cd_get.plain entry_cd_get (slot_cd_get.check _ _ _ _ _ _ _ _ type_isub (args_cd_get _ _ _) ?_)
  unfold Builtin.«classmethod_descriptor.__get__»
  refine wpAny_bind (wpAny_of_eq (a := (.builtin "object.__init_subclass__", none, some (.ref C))) (by first | rfl | kernel_rfl) ?_)
  dsimp only
  repeat (first
    | (with_reducible refine ks_wpAny_isType_cls hC hd ?_)
    | (with_reducible refine Looks.at (sub_at hC hd hm (by kernel_rfl)) ?_)
    | (with_reducible refine wpAny_newObj_type ?_ (by size_fits))
    | (unfold newFields)
    | wp_step
    | dsimp only)
  all_goals exact hq
end
end Mine.Eng
end
section
open PySem PySem.W PySem.W.X PySem.Spec PySem.Calls PyProof.Rows
set_option maxRecDepth 100000
set_option maxHeartbeats 4000000
namespace Mine.Eng
noncomputable def fnSc (o : Option Obj) : Scope := match o with
  | some ⟨_, _, .func fd, _⟩ => fd.scope
  | _ => default
noncomputable def fnB (o : Option Obj) : List Stmt := match o with
  | some ⟨_, _, .func fd, _⟩ => (match fd.body with | .stmts b => b | _ => [])
  | _ => []
noncomputable def hdS : List Stmt → Stmt
  | s :: _ => s
  | [] => .Pass default
noncomputable def cBody : Stmt → List Stmt
  | .ClassDef _ _ _ b _ _ _ _ _ _ _ => b
  | _ => []
noncomputable def cScope : Stmt → Scope
  | .ClassDef _ _ _ _ _ _ s _ _ _ _ => s
  | _ => default
noncomputable def cStat : Stmt → List Str
  | .ClassDef _ _ _ _ _ _ _ _ _ s _ => s
  | _ => []
noncomputable def cPos : Stmt → Pos
  | .ClassDef _ _ _ _ _ _ _ _ _ _ p => p
  | _ => default
noncomputable def KE (P : Params) : Frag := (0, ((boot_heap P).get? 0).getD default) :: (4, ((boot_heap P).get? 4).getD default) :: hd.heap_1 P
noncomputable abbrev S0 (P : Params) : Setting := ⟨PySem.Challenge.rw_il0016_01.row.prog, P⟩
noncomputable def kS (P : Params) : Stmt := hdS (fnB (look (hd.heap_1 P) 38))
noncomputable def envK (P : Params) (L : Nat) : Env := envOfC (Str.ofString "cmp_to_key") (fnSc (look (hd.heap_1 P) 38)) L 38 (.ref 37)
/-- the class statement's tree, the frame's door in hand -/
noncomputable def tB (P : Params) (L : Nat) (ef : Sem Unit) : Sem Value :=
  (bcP ef (Str.ofString "K") (Str.ofString "cmp_to_key.<locals>.K") [.type "object"] [] (cBody (kS P)) (cScope (kS P)) (cStat (kS P)) (cPos (kS P)).line (envK P L) (cPos (kS P)) none).1
noncomputable def scB : List Nat := [0, 0, 0, 0, 0, 0, 0, 3, 0, 0, 4, 0, 1, 0, 0, 0, 1, 1, 1, 0, 0, 0, 0, 998, 4, 4, 0, 4, 4, 4, 4, 4, 4, 4, 4, 4, 0, 4, 4, 4, 0, 4, 4, 4, 7, 6, 0, 0, 0, 0, 0, 0, 6, 6, 6, 0, 0, 0, 0, 4, 4, 4, 0, 7, 6, 0, 0, 0, 0, 0, 0, 6, 6, 6, 0, 0, 0, 0, 4, 4, 4, 0, 7, 6, 0, 0, 0, 0, 0, 0, 6, 6, 6, 0, 0, 0, 0, 4, 4, 4, 0, 7, 6, 0, 0, 0, 0, 0, 0, 6, 6, 6, 0, 0, 0, 0, 4, 4, 4, 0, 7, 6, 0, 0, 0, 0, 0, 0, 6, 6, 6, 0, 0, 0, 0, 4, 4, 4, 0, 7, 6, 0, 0, 0, 0, 0, 0, 6, 6, 6, 0, 0, 0, 0, 4, 4, 4, 4, 4, 4, 0, 4, 4, 4, 0, 0, 0, 1, 60, 60, 0, 60, 0]
noncomputable def scN : List Nat := [2, 4, 2, 4, 4, 9, 1, 58, 0, 59, 59, 59, 0, 60, 60, 60, 59, 59, 59, 59, 59, 59, 59, 999, 60, 60, 60, 60, 60, 60, 60, 59, 59, 0, 59, 59, 59, 60, 60, 60, 60, 59, 59, 59, 59, 59, 59, 59, 9, 16, 24, 32, 40, 48, 56, 57, 61, 1, 62, 1, 0, 63, 60, 60, 60, 60, 0]
noncomputable def l0 : Obj := { cls := .type "list", data := .seq #[] 0 }
noncomputable def s0 : Obj := { cls := .type "super", data := .fields #[.none, .none, .none] }
noncomputable def seqAt (T : BT) (j : Nat) : Array Value := match T.get j with
  | some o => match o.data with
    | .seq xs _ => xs
    | _ => #[]
  | none => #[]
noncomputable def clsAt (T : BT) (j : Nat) : Option ClassData := match T.get j with
  | some o => match o.data with
    | .cls c => some c
    | _ => none
  | none => none
noncomputable def fx0 (T : BT) : BT := (T.ins 57 l0).set 57 (Obj.mapSeq (· ++ seqAt T 8))
noncomputable def fx1 (n : Nat) (T : BT) : BT := (((T.ins 61 s0).set 61 (Obj.mapFields (·.setIfInBounds 0 (.ref (n + 58))))).set 61 (Obj.mapFields (·.setIfInBounds 1 (.ref (n + 58))))).set 61 (Obj.mapFields (·.setIfInBounds 2 (.ref (n + 58))))
noncomputable def fx2 (n : Nat) (T : BT) : BT := T.ins 62 { cls := .type "builtin_function_or_method", data := .fields #[.builtin "object.__init_subclass__", .ref (n + 58)] }
noncomputable def exN (n : Nat) : List Ex := [⟨.ok (.ret (.ref (n + 56))), fx0, 57, 73⟩, ⟨.ok (.ret (.ref (n + 60))), fx1 n, 61, 76⟩, ⟨.ok (.ret (.ref (n + 61))), fx2 n, 62, 77⟩]
noncomputable abbrev argN (n t₀ : Nat) : Args := ⟨[.type "type", .str (Str.ofString "K") (t₀ + 0), .ref (n + 0), .ref (n + 2)], []⟩
noncomputable abbrev cN (n t₀ : Nat) : Code := .builtin "type.__new__" (argN n t₀)
noncomputable def oN (P : Params) (n t₀ : Nat) (T : BT) (tree : Sem PySem.Fin) (ws : List (Sem Unit → Sem PySem.Fin)) : Ob := run (S0 P) (KE P) [33] n t₀ none false 700 tree (cN n t₀) [] T 56 73 scN (exN n) ws
noncomputable def tN (flt : Value → List Value → List Value) (n t₀ : Nat) : Sem PySem.Fin := (newP flt (argN n t₀)).1
noncomputable def fC : Value → List Value → List Value := fun _ _ => [.type "object"]
noncomputable def wN (P : Params) (n t₀ : Nat) (T : BT) (flt : Value → List Value → List Value) : Sem PySem.Fin := mkT (oN P n t₀ T (tN flt n t₀) [])
noncomputable def T0 : BT := BT.ins .nil 0 (tabObj #[])
noncomputable abbrev cT : Code := .builtin "" ⟨[], []⟩
noncomputable def oB (P : Params) (n t₀ L : Nat) (ef : Sem Unit) (ws : List (Sem Unit → Sem PySem.Fin)) (f : BT → BT) : Ob := run (S0 P) (KE P) [33] n t₀ none true 700 (valT (tB P L ef)) cT [] T0 0 0 scB [⟨.ok (.ret (.ref (n+58))), f, 62, 77⟩] ws
/-- the tree where the class body's frame is entered -/
noncomputable def dB (P : Params) (n t₀ L : Nat) (ef : Sem Unit) : Sem PySem.Fin := mkT (oB P n t₀ L ef [] id)
end Mine.Eng
end
section
open PySem PySem.W PySem.W.X PySem.Spec PySem.Calls PyProof.Rows
set_option maxRecDepth 100000
set_option maxHeartbeats 4000000
namespace Mine.Eng
noncomputable def fl0 : Value → List Value → List Value := fun self mro => R.filterR (fun x => @bne Value (@instBEqOfDecidableEq Value Fast.tw7966671052430208091) x self) mro
noncomputable def TT (P : Params) (n t₀ L : Nat) : BT := (exAt (oB P n t₀ L eF [dB P n t₀ L] id) 0).T
noncomputable def oF (P : Params) (n t₀ : Nat) (T : BT) : Ob := oN P n t₀ T (tN fl0 n t₀) [fun _ => wN P n t₀ T fC]
noncomputable def fN (P : Params) (n t₀ : Nat) (T : BT) : BT := fiT (oF P n t₀ T)
noncomputable def oG (P : Params) (n t₀ L : Nat) : Ob := oB P n t₀ L eF [dB P n t₀ L] (fN P n t₀)
section
variable (P : Params) (n t₀ L : Nat)
theorem G_all : ((lds (oG P n t₀ L)).map (·.1) = (lds (oG P n t₀ L)).map (·.2) ∧ sts (oG P n t₀ L) = [] ∧ sfs (oG P n t₀ L) = [(mkT (oG P n t₀ L), dB P n t₀ L, [], cT)] ∧ mkT (oG P n t₀ L) = dB P n t₀ L eF ∧ rws (oG P n t₀ L) = []) ∧
    fin (oG P n t₀ L) = some (.ok (.ret (.ref (n + 58))), fiT (oG P n t₀ L), 62, 77) ∧
    exs (oG P n t₀ L) = [⟨true, false, [], (exAt (oG P n t₀ L) 0).κ, (exAt (oG P n t₀ L) 0).c₀, none, cN n t₀, TT P n t₀ L, 56, 73, ⟨.ok (.ret (.ref (n + 58))), fN P n t₀, 62, 77⟩⟩] := by
  refine ⟨⟨?_, ?_, ?_, ?_, ?_⟩, ?_, ?_⟩ <;> kernel_rfl
theorem G_stk (k : List (Code × Pos) → Sem Unit) : dB P n t₀ L (.stack k) = .stack fun st => dB P n t₀ L (k st) := by kernel_rfl
theorem G_load (a : Addr) (p : Option Value) (k : Obj → Sem Unit) : dB P n t₀ L (.load a p k) = .load a p fun o => dB P n t₀ L (k o) := by kernel_rfl
theorem F_flt (flt : Value → List Value → List Value) : wN P n t₀ (TT P n t₀ L) flt = wN P n t₀ (TT P n t₀ L) (fun _ _ => flt (.ref (n + 58)) [.ref (n + 58), .type "object"]) := by
  unfold wN mkT
  kernel_rfl
noncomputable def xF (k : Nat) : ExO := exAt (oF P n t₀ (TT P n t₀ L)) k
theorem F_all : ((lds (oF P n t₀ (TT P n t₀ L))).map (·.1) = (lds (oF P n t₀ (TT P n t₀ L))).map (·.2) ∧ sts (oF P n t₀ (TT P n t₀ L)) = [] ∧ sfs (oF P n t₀ (TT P n t₀ L)) = [] ∧
    rws (oF P n t₀ (TT P n t₀ L)) = [(wN P n t₀ (TT P n t₀ L) fl0, wN P n t₀ (TT P n t₀ L) fC)]) ∧
    fin (oF P n t₀ (TT P n t₀ L)) = some (.ok (.ret (.ref (n + 58))), fN P n t₀ (TT P n t₀ L), 62, 77) ∧
    exs (oF P n t₀ (TT P n t₀ L)) = [⟨false, (xF P n t₀ L 0).g, (xF P n t₀ L 0).l, (xF P n t₀ L 0).κ, (xF P n t₀ L 0).c₀, none, .builtin "proto.collect" ⟨[.ref (n + 7)], []⟩, (xF P n t₀ L 0).T, 56, 73, ⟨.ok (.ret (.ref (n + 56))), fx0, 57, 73⟩⟩,
  ⟨false, (xF P n t₀ L 1).g, (xF P n t₀ L 1).l, (xF P n t₀ L 1).κ, (xF P n t₀ L 1).c₀, none, .call (.type "super") ⟨[.ref (n + 58), .ref (n + 58)], []⟩, (xF P n t₀ L 1).T, 60, 76, ⟨.ok (.ret (.ref (n + 60))), fx1 n, 61, 76⟩⟩,
  ⟨false, (xF P n t₀ L 2).g, (xF P n t₀ L 2).l, (xF P n t₀ L 2).κ, (xF P n t₀ L 2).c₀, none, .call (.builtin "super.__getattribute__") ⟨[.ref (n + 60), .str (Str.ofString "__init_subclass__") (t₀ + 76)], []⟩, (xF P n t₀ L 2).T, 61, 77, ⟨.ok (.ret (.ref (n + 61))), fx2 n, 62, 77⟩⟩] ∧
    ((xF P n t₀ L 0).T.get 8 = some { cls := .type "list", data := .seq (seqAt (xF P n t₀ L 0).T 8) 0 } ∧ Nat.ble (seqAt (xF P n t₀ L 0).T 8).size 5 = true ∧
    (clsAt (xF P n t₀ L 1).T 59).map (·.mro) = some [.ref (n + 58), .type "object"] ∧
    (clsAt (xF P n t₀ L 2).T 59).map (·.mro) = some [.ref (n + 58), .type "object"] ∧
    (xF P n t₀ L 2).T.get 61 = some { cls := .type "super", data := .fields #[.ref (n + 58), .ref (n + 58), .ref (n + 58)] }) ∧
    ((((xF P n t₀ L 0).T.ins 57 l0).get 57).isSome = true ∧ (((xF P n t₀ L 1).T.ins 61 s0).get 61).isSome = true ∧ (((xF P n t₀ L 2).T.ins 62 { cls := .type "builtin_function_or_method", data := .fields #[.builtin "object.__init_subclass__", .ref (n + 58)] }).get 62).isSome = true) := by
  refine ⟨⟨?_, ?_, ?_, ?_⟩, ?_, ?_, ⟨?_, ?_, ?_, ?_, ?_⟩, ?_, ?_, ?_⟩ <;> kernel_rfl
end
end Mine.Eng
end
section
open PySem PySem.W PySem.W.X PySem.Spec PySem.Calls PyProof.Rows
set_option maxRecDepth 100000
set_option maxHeartbeats 4000000
namespace Mine.Eng
noncomputable abbrev AY : Around := { handled := none, depth := 950, frames := none, guards := none, units := 400 }
noncomputable abbrev vv (w : World) (h₀ : Heap) (n t₀ : Nat) (g : Array GenState) (d : Drawn) (os : OsState) (top : Bool) (A : Around) (R : Result → Shared → Prop) : V :=
  ⟨PR, w, KE w.params, h₀, [33], n, top, A, R, g, d, t₀, os⟩
/-- what the base must know -/
structure Bs (w : World) (h₀ : Heap) (n : Nat) : Prop where
  size : h₀.objs.size = n
  K : (KE w.params).In h₀
  lt : 33 < n
  lim : h₀.NoLimit
theorem KE_33 (P : Params) : (KE P).lookup 33 = none := by kernel_rfl
theorem Bs.ok {w : World} {h₀ : Heap} {n t₀ : Nat} {g : Array GenState} {d : Drawn} {os : OsState} {top : Bool} {A : Around} {R : Result → Shared → Prop} (b : Bs w h₀ n) : (vv w h₀ n t₀ g d os top A R).Ok where
  size := b.size
  K := b.K
  lt := fun a ha => by
    have : a = 33 := by simpa using ha
    subst this; exact b.lt
  nd := by simp
  out := fun a o e ha => by
    have : a = 33 := by simpa using ha
    subst this
    rw [KE_33] at e; cases e
  lim := b.lim
  c2 := by show ¬ (2 : Nat) ∈ [33]; decide
theorem rp_of {v v' : V} {h : Heap} {T : BT} {m : Nat} (e1 : v.n = v'.n) (e2 : v.led = v'.led) (e3 : v.h₀ = v'.h₀) (D : Rp v h T m) : Rp v' h T m := by
  cases v; cases v'
  cases e1; cases e2; cases e3
  exact ⟨D.size, D.own, D.keep⟩
theorem fl0_at (n : Nat) : fl0 (.ref (n + 58)) [.ref (n + 58), .type "object"] = [.type "object"] := by
  unfold fl0
  rw [← PySem.W.R.filterR_eq]
  simp
theorem big_sz : 10000 ≤ sizeLine := by decide +kernel
section
variable {w : World} {h₀ : Heap} {n t₀ : Nat} {g : Array GenState} {d : Drawn} {os : OsState} {R : Result → Shared → Prop}
theorem peekE (w : World) : peek (KE w.params) ⟨PR, w.params⟩ anyOpaqueLoaded = some false := by kernel_rfl
theorem peekE2 (w : World) : peek (KE w.params) ⟨PR, w.params⟩ anyOpaqueLoaded = some false := peekE w
theorem clsAt_get {T : BT} {j : Nat} {x : List Value} (h : (clsAt T j).map (·.mro) = some x) : ∃ o cd, T.get j = some o ∧ o.data = .cls cd ∧ cd.mro = x := by
  unfold clsAt at h
  cases e : T.get j with
  | none => rw [e] at h; cases h
  | some o =>
    rw [e] at h
    dsimp only at h
    cases q : o.data with
    | cls c => rw [q] at h; exact ⟨o, c, rfl, q, Option.some.inj h⟩
    | _ => rw [q] at h; cases h
theorem call_node {M : Model} {A : Around} {c : Code} {g' : Bool} {l : List Value} {Q E : Value → Shared → Prop} {s : Shared} (h : wpAny M A (runValue c) Q E s) : wpAny M A (Sem.call c none g' l (fun r => .pure r)) (postV Q E) (fun _ _ => False) s := by
  intro Γ p hΓ
  have z := h Γ p hΓ
  rw [Sem.wp_runValue] at z
  refine wpCode_mono (fun r s' h' => ?_) z
  cases r with
  | error e => exact h'
  | ok f => cases f <;> exact h'
noncomputable abbrev vB (w : World) (h₀ : Heap) (n t₀ : Nat) (g : Array GenState) (d : Drawn) (os : OsState) (R : Result → Shared → Prop) : V := vv w h₀ n t₀ g d os false AY R
variable {L : Nat}
theorem rp_in (b : Bs w h₀ n) {top : Bool} {A : Around} {h : Heap} {T : BT} {m : Nat} (D : Rp (vv w h₀ n t₀ g d os top A R) h T m) : (KE w.params).In h := fun a o e =>
  D.keep a o (b.K a o e) (by
    intro ha
    have : a = 33 := by simpa using ha
    subst this
    rw [KE_33] at e; cases e)
theorem own_at {top : Bool} {A : Around} {h : Heap} {T : BT} {m : Nat} (D : Rp (vv w h₀ n t₀ g d os top A R) h T m) {j : Nat} {o : Obj} (e : T.get (j + 1) = some o) : h.get? (n + j) = some o := by
  have z := (D.own _ _ e).2
  rw [adr_ge (by show 1 ≤ j + 1; omega)] at z
  exact z
theorem ext1 (b : Bs w h₀ n) {g' : Bool} {l : List Value} {κ : List KF} {c₀ : Code} {T : BT} (hT : (clsAt T 59).map (·.mro) = some [.ref (n + 58), .type "object"]) (hI : ((T.ins 61 s0).get 61).isSome = true) {top : Bool} {A : Around} :
    Ext (vv w h₀ n t₀ g d os top A R) ⟨false, g', l, κ, c₀, none, .call (.type "super") ⟨[.ref (n + 58), .ref (n + 58)], []⟩, T, 60, 76, ⟨.ok (.ret (.ref (n + 60))), fx1 n, 61, 76⟩⟩ := by
  intro R' h D hR
  obtain ⟨oC, cd, e1, e2, e3⟩ := clsAt_get hT
  have hC := own_at D e1
  have hz : h.objs.size = n + 60 := D.size
  have hE : wpAny (model PR w) (BO (vv w h₀ n t₀ g d os top A R) κ c₀) (call (.type "super") [.ref (n + 58), .ref (n + 58)]) (fun x s' => x = .ref (n + 60) ∧ R' (.ok (.ret (.ref (n + 60)))) s') (fun _ _ => False) ⟨h, g, d, t₀ + 76, os⟩ := by
    refine call_super (C := n + 58) hC e2 e3 ?_
    rw [hz]
    refine ⟨rfl, hR _ ?_⟩
    have O := b.ok (t₀ := t₀) (g := g) (d := d) (os := os) (top := top) (A := A) (R := R)
    have D1 := D.alloc O (o := s0) rfl hI
    have g1 : (T.ins 61 s0).get 61 = some s0 := by rw [BT.get_ins s0 T 61 hI]; simp
    have D2 := D1.update O (j := 61) (f := Obj.mapFields (·.setIfInBounds 0 (.ref (n + 58)))) g1 rfl
    have g2 : ((T.ins 61 s0).set 61 (Obj.mapFields (·.setIfInBounds 0 (.ref (n + 58))))).get 61 = some (Obj.mapFields (·.setIfInBounds 0 (.ref (n + 58))) s0) := by rw [BT.get_set, if_pos rfl, g1]; rfl
    have D3 := D2.update O (j := 61) (f := Obj.mapFields (·.setIfInBounds 1 (.ref (n + 58)))) g2 rfl
    have g3 : (((T.ins 61 s0).set 61 (Obj.mapFields (·.setIfInBounds 0 (.ref (n + 58))))).set 61 (Obj.mapFields (·.setIfInBounds 1 (.ref (n + 58))))).get 61 = some (Obj.mapFields (·.setIfInBounds 1 (.ref (n + 58))) (Obj.mapFields (·.setIfInBounds 0 (.ref (n + 58))) s0)) := by rw [BT.get_set, if_pos rfl, g2]; rfl
    exact D3.update O (j := 61) (f := Obj.mapFields (·.setIfInBounds 2 (.ref (n + 58)))) g3 rfl
  refine wpAny_mono (call_node hE) (fun r s' h' => ?_) (fun _ _ z => z)
  rcases r with e | f
  · exact h'.elim
  · cases f with
    | ret x => obtain ⟨rfl, h''⟩ := h'; exact h''
    | _ => exact h'.elim
theorem ext2 (b : Bs w h₀ n) {g' : Bool} {l : List Value} {κ : List KF} {c₀ : Code} {T : BT} {tk : Tok} (hT : (clsAt T 59).map (·.mro) = some [.ref (n + 58), .type "object"]) (hS : T.get 61 = some { cls := .type "super", data := .fields #[.ref (n + 58), .ref (n + 58), .ref (n + 58)] })
    (hI : ((T.ins 62 { cls := .type "builtin_function_or_method", data := .fields #[.builtin "object.__init_subclass__", .ref (n + 58)] }).get 62).isSome = true) {top : Bool} {A : Around} :
    Ext (vv w h₀ n t₀ g d os top A R) ⟨false, g', l, κ, c₀, none, .call (.builtin "super.__getattribute__") ⟨[.ref (n + 60), .str (Str.ofString "__init_subclass__") tk], []⟩, T, 61, 77, ⟨.ok (.ret (.ref (n + 61))), fx2 n, 62, 77⟩⟩ := by
  intro R' h D hR
  obtain ⟨oC, cd, e1, e2, e3⟩ := clsAt_get hT
  have hC := own_at D e1
  have hso := own_at D hS
  have hz : h.objs.size = n + 61 := D.size
  have O := b.ok (t₀ := t₀) (g := g) (d := d) (os := os) (top := top) (A := A) (R := R)
  have D1 := D.alloc O rfl hI
  have hE : wpAny (model PR w) (BO (vv w h₀ n t₀ g d os top A R) κ c₀) (runValue (.call (.builtin "super.__getattribute__") ⟨[.ref (n + 60), .str (Str.ofString "__init_subclass__") tk], []⟩)) (fun x s' => x = .ref (n + 61) ∧ R' (.ok (.ret (.ref (n + 61)))) s') (fun _ _ => False) ⟨h, g, d, t₀ + 77, os⟩ := by
    refine wpAny_call_entry F.ks_slot_super_ga ⟨_, hso, rfl⟩ F.ks_entry_super_ga ?_ (F.ks_gaArgs_super _ _)
    refine ga_super (rp_in b D) (peekE w) hC e2 e3 hso ?_
    rw [hz]
    exact ⟨_, rfl, rfl, hR _ D1⟩
  refine wpAny_mono (call_node hE) (fun r s' h' => ?_) (fun _ _ z => z)
  rcases r with e | f
  · exact h'.elim
  · cases f with
    | ret x => obtain ⟨rfl, h''⟩ := h'; exact h''
    | _ => exact h'.elim
theorem collect_run {A : Around} {E : Value → Shared → Prop} {Q : Value → Shared → Prop} {s : Shared} {l : Addr} {o : Obj} {vs : Array Value} {k : Nat} (ho : s.heap.get? l = some o) (hc : o.cls = .type "list") (hd : o.data = .seq vs k) (hsz : vs.size ≤ 5)
    (hq : Q (.ref s.heap.objs.size) { s with heap := (s.heap.push l0).update s.heap.objs.size (Obj.mapSeq (· ++ vs)) }) : wpAny (model PR w) A (runValue (.builtin "proto.collect" ⟨[.ref l], []⟩)) Q E s := by
  have big := big_sz
  refine wpAny_runValue (codeAny_builtin entry_proto_collect' ?_)
  show wpAny _ _ (do again (.builtin "list.__iadd__" ⟨[← newList [], .ref l], []⟩)) _ _ s
  refine wpAny_bind (wpAny_newList (wpAny_pure ⟨Code.quiet_builtin _ (by decide +kernel), codeAny_builtin entry_list_iadd' ?_⟩))
  show wpAny _ _ (Builtin.List.listExtendWith (.ref s.heap.objs.size) (.ref l) (.ref s.heap.objs.size)) _ _ { s with heap := s.heap.push l0 }
  unfold Builtin.List.listExtendWith
  have ho' : (s.heap.push l0).get? l = some o := Heap.get?_push_of_some _ ho
  refine wpAny_bind (wpAny_typeOf (T := "list") ⟨o, ho', hc⟩ ?_)
  rw [if_pos (by rw [show (Value.type "list" == Value.type "list") = true from rfl]; simp)]
  refine wpAny_bind (listItems_at ho' hd ?_)
  refine wpAny_bind (listItems_at (xs := #[]) (n := 0) (Heap.get?_push_size _ rfl) rfl ?_)
  rw [if_neg (by simp)]
  refine wpAny_bind (listUpdate_at (xs := #[]) (n := 0) (Heap.get?_push_size _ rfl) rfl ?_ (Nat.zero_le _) (by show (#[] ++ vs).size ≤ sizeLine + 1; simp only [Array.size_append]; simp; omega))
  exact wpAny_pure hq
theorem ext0 (b : Bs w h₀ n) {g' : Bool} {l : List Value} {κ : List KF} {c₀ : Code} {T : BT} (hT : T.get 8 = some { cls := .type "list", data := .seq (seqAt T 8) 0 }) (hs : Nat.ble (seqAt T 8).size 5 = true)
    (hI : ((T.ins 57 l0).get 57).isSome = true) {top : Bool} {A : Around} :
    Ext (vv w h₀ n t₀ g d os top A R) ⟨false, g', l, κ, c₀, none, .builtin "proto.collect" ⟨[.ref (n + 7)], []⟩, T, 56, 73, ⟨.ok (.ret (.ref (n + 56))), fx0, 57, 73⟩⟩ := by
  intro R' h D hR
  have hl := own_at D hT
  have hz : h.objs.size = n + 56 := D.size
  have O := b.ok (t₀ := t₀) (g := g) (d := d) (os := os) (top := top) (A := A) (R := R)
  have D1 := D.alloc O (o := l0) rfl hI
  have g1 : (T.ins 57 l0).get 57 = some l0 := by rw [BT.get_ins l0 T 57 hI]; simp
  have D2 := D1.update O (j := 57) (f := Obj.mapSeq (· ++ seqAt T 8)) g1 rfl
  have hE : wpAny (model PR w) (BO (vv w h₀ n t₀ g d os top A R) κ c₀) (runValue (.builtin "proto.collect" ⟨[.ref (n + 7)], []⟩)) (fun x s' => x = .ref (n + 56) ∧ R' (.ok (.ret (.ref (n + 56)))) s') (fun _ _ => False) ⟨h, g, d, t₀ + 73, os⟩ := by
    refine collect_run hl rfl rfl (Nat.le_of_ble_eq_true hs) ?_
    show (Value.ref h.objs.size = .ref (n + 56)) ∧ R' _ ⟨(h.push l0).update h.objs.size (Obj.mapSeq (· ++ seqAt T 8)), g, d, t₀ + 73, os⟩
    rw [hz]
    exact ⟨rfl, hR _ D2⟩
  refine wpAny_mono (call_node hE) (fun r s' h' => ?_) (fun _ _ z => z)
  rcases r with e | f
  · exact h'.elim
  · cases f with
    | ret x => obtain ⟨rfl, h''⟩ := h'; exact h''
    | _ => exact h'.elim
theorem den_b {id : String} {args : Args} {b : Builtin} (h : entryFor table id = some b) : denote table (.builtin id args) = b args := by
  show (match entryFor table id with | some b => b args | none => unsupported ((withoutEnding? id "#data").getD id)) = _
  rw [h]
/-- type.__new__ on the class statement's namespace -/
theorem new_code (b : Bs w h₀ n) {A : Around} (hA1 : A.handled = none) (hA2 : A.depth ≤ 950) (hA3 : A.units ≤ 400) {R' R₂ : Result → Shared → Prop} {top : Bool} {A' : Around} {h : Heap} (D : Rp (vv w h₀ n t₀ g d os top A' R₂) h (TT w.params n t₀ L) 56)
    (hR : ∀ h', Rp (vv w h₀ n t₀ g d os top A' R₂) h' (fN w.params n t₀ (TT w.params n t₀ L)) 62 → R' (.ok (.ret (.ref (n + 58)))) ⟨h', g, d, t₀ + 77, os⟩) : codeAny (model PR w) A (cN n t₀) R' ⟨h, g, d, t₀ + 73, os⟩ := by
  refine weakC (B := AY) hA1 hA2 rfl rfl hA3 ?_
  have O := b.ok (t₀ := t₀) (g := g) (d := d) (os := os) (top := false) (A := AY) (R := R')
  obtain ⟨⟨f1, f2, f3, f4⟩, f5, f6, ⟨f7, f8, f9, f10, f11⟩, f12, f13, f14⟩ := F_all w.params n t₀ L
  have entry : entryFor table "type.__new__" = some Builtin.«type.__new__» := entryFor_of_tree (by kernel_rfl)
  have ht : denote table (cN n t₀) = tN fl0 n t₀ := by
    have e1 : denote table (cN n t₀) = Builtin.«type.__new__» (argN n t₀) := den_b entry
    rw [e1, Fast.te4202317264376624991]
    exact (newP fl0 (argN n t₀)).2 fun _ _ => rfl
  have D2 : Rp (vB w h₀ n t₀ g d os R') h (TT w.params n t₀ L) 56 := rp_of (v := vv w h₀ n t₀ g d os top A' R₂) rfl rfl rfl D
  have G : Good (vB w h₀ n t₀ g d os R') (oF w.params n t₀ (TT w.params n t₀ L)) := by
    refine good_of f1 (fun q hq => by rw [f2] at hq; cases hq) (fun q hq => by rw [f3] at hq; cases hq) (fun x hx => ?_) (fun q hq => ?_) f5 (fun h' D' => ?_)
    · rw [f6] at hx
      simp only [List.mem_cons, List.not_mem_nil, or_false] at hx
      rcases hx with rfl | rfl | rfl
      · exact ext0 b f7 f8 f12
      · exact ext1 b f9 f13
      · exact ext2 b f10 f11 f14
    · rw [f4] at hq
      simp only [List.mem_cons, List.not_mem_nil, or_false] at hq
      subst hq
      show wN w.params n t₀ (TT w.params n t₀ L) fl0 = wN w.params n t₀ (TT w.params n t₀ L) fC
      rw [F_flt, fl0_at]
      rfl
    · exact hR h' (rp_of (v := vB w h₀ n t₀ g d os R') rfl rfl rfl D')
  unfold oF oN at G
  exact startC (v := vB w h₀ n t₀ g d os R') O (hn := none) rfl rfl ht D2 G
end
end Mine.Eng
end
section
open PySem PySem.W PySem.W.X PySem.Spec PySem.Calls PyProof.Rows
set_option maxRecDepth 100000
set_option maxHeartbeats 4000000
namespace Mine.Eng
theorem G_dep (w : World) (h₀ : Heap) (n t₀ L : Nat) (g : Array GenState) (d : Drawn) (os : OsState) (R : Result → Shared → Prop) :
    (Nat.ble (AO (vv w h₀ n t₀ g d os true AZ R) (exAt (oG w.params n t₀ L) 0).κ).depth 950 && Nat.ble (AO (vv w h₀ n t₀ g d os true AZ R) (exAt (oG w.params n t₀ L) 0).κ).units 400) = true := by kernel_rfl
theorem G_hd (w : World) (h₀ : Heap) (n t₀ L : Nat) (g : Array GenState) (d : Drawn) (os : OsState) (R : Result → Shared → Prop) :
    (AO (vv w h₀ n t₀ g d os true AZ R) (exAt (oG w.params n t₀ L) 0).κ).handled = none := by kernel_rfl
section
variable {w : World} {h₀ : Heap} {n t₀ : Nat} {g : Array GenState} {d : Drawn} {os : OsState} {L : Nat}
theorem rp_start (b : Bs w h₀ n) (h33 : h₀.get? 33 = some (tabObj #[])) {top : Bool} {A : Around} {R : Result → Shared → Prop} : Rp (vv w h₀ n t₀ g d os top A R) h₀ T0 0 := by
  refine ⟨b.size, fun j o e => ?_, fun b' o e _ => e⟩
  have hj : T0.get j = if j = 0 then some (tabObj #[]) else none := by
    have := BT.get_ins (tabObj #[]) .nil 0 rfl j
    exact this
  rw [hj] at e
  by_cases q : j = 0
  · subst q
    rw [if_pos rfl] at e
    cases e
    exact ⟨by show 0 < 1 + 0; omega, h33⟩
  · rw [if_neg q] at e; cases e
theorem build_class (b : Bs w h₀ n) (h33 : h₀.get? 33 = some (tabObj #[])) {A : Around} (hA1 : A.handled = none) (hA2 : A.depth ≤ 900) (hA3 : A.units ≤ 200) {Q E : Value → Shared → Prop}
    (hQ : ∀ h', Rp (vv w h₀ n t₀ g d os true AZ (postV Q E)) h' (fiT (oG w.params n t₀ L)) 62 → Q (.ref (n + 58)) ⟨h', g, d, t₀ + 77, os⟩) :
    wpAny (model PR w) A (buildClass (Str.ofString "K") (Str.ofString "cmp_to_key.<locals>.K") [.type "object"] [] (cBody (kS w.params)) (cScope (kS w.params)) (cStat (kS w.params)) (cPos (kS w.params)).line (envK w.params L) (cPos (kS w.params)) none) Q E ⟨h₀, g, d, t₀, os⟩ := by
  refine weak (B := AZ) hA1 hA2 rfl rfl hA3 ?_
  have et : buildClass (Str.ofString "K") (Str.ofString "cmp_to_key.<locals>.K") [.type "object"] [] (cBody (kS w.params)) (cScope (kS w.params)) (cStat (kS w.params)) (cPos (kS w.params)).line (envK w.params L) (cPos (kS w.params)) none = tB w.params L eF := by
    rw [Fast.te1785580099245652887]
    exact (bcP eF _ _ _ _ _ _ _ _ _ _ _).2 rfl
  rw [et]
  have O := b.ok (t₀ := t₀) (g := g) (d := d) (os := os) (top := true) (A := AZ) (R := postV Q E)
  obtain ⟨⟨g1, g2, g3, g4, g5⟩, g6, g7⟩ := G_all w.params n t₀ L
  have dep := G_dep w h₀ n t₀ L g d os (postV Q E)
  rw [Bool.and_eq_true] at dep
  have G : Good (vv w h₀ n t₀ g d os true AZ (postV Q E)) (oG w.params n t₀ L) := by
    refine good_of g1 (fun q hq => by rw [g2] at hq; cases hq) (fun q hq => ?_) (fun x hx => ?_) (fun q hq => by rw [g5] at hq; cases hq) g6 (fun h' D' => hQ h' D')
    · rw [g3] at hq
      simp only [List.mem_cons, List.not_mem_nil, or_false] at hq
      subst hq
      exact ⟨g4, G_stk _ _ _ _, G_load _ _ _ _, rfl⟩
    · rw [g7] at hx
      simp only [List.mem_cons, List.not_mem_nil, or_false] at hx
      subst hx
      intro R' h D hR
      exact new_code (L := L) b (G_hd w h₀ n t₀ L g d os (postV Q E)) (Nat.le_of_ble_eq_true dep.1) (Nat.le_of_ble_eq_true dep.2) D fun h' D' => hR h' D'
  unfold oG oB at G
  exact startV (v := vv w h₀ n t₀ g d os true AZ (postV Q E)) O (hn := none) rfl rfl rfl (t := tB w.params L eF) (N := 700) (c := cT) (T := T0) (m := 0) (i := 0) (h := h₀) (sc := scB) (ex := [⟨.ok (.ret (.ref (n + 58))), fN w.params n t₀, 62, 77⟩]) (ws := [dB w.params n t₀ L]) (rp_start b h33) G
end
end Mine.Eng
end
section
open PySem PySem.W PySem.W.X PySem.Spec PySem.Calls PyProof.Rows
set_option maxRecDepth 100000
set_option maxHeartbeats 4000000
namespace Mine.Eng.L2
/-- where the first creation began -/
structure Pr where
  n : Nat
  t : Nat
  L : Nat
noncomputable def led (qq : Pr) : List Nat := [33, qq.n + 5, qq.n + 4]
noncomputable def T1 (P : Params) (qq : Pr) : BT := fiT (Mine.Eng.oG P qq.n qq.t qq.L)
noncomputable def o0 (P : Params) (qq : Pr) : Obj := ((T1 P qq).get 0).getD default
noncomputable def o6 (P : Params) (qq : Pr) : Obj := ((T1 P qq).get 6).getD default
noncomputable def o5 (P : Params) (qq : Pr) : Obj := ((T1 P qq).get 5).getD default
noncomputable def T0 (P : Params) (qq : Pr) : BT := ((BT.ins .nil 0 (o0 P qq)).ins 1 (o6 P qq)).ins 2 (o5 P qq)
noncomputable def scB : List Nat := [0, 0, 0, 0, 0, 0, 0, 5, 0, 0, 6, 0, 1, 0, 0, 0, 0, 998, 6, 6, 0, 6, 6, 6, 6, 6, 6, 6, 6, 6, 0, 6, 6, 6, 0, 6, 6, 6, 2, 3, 0, 0, 0, 0, 6, 6, 6, 0, 2, 3, 0, 0, 0, 0, 6, 6, 6, 0, 2, 3, 0, 0, 0, 0, 6, 6, 6, 0, 2, 3, 0, 0, 0, 0, 6, 6, 6, 0, 2, 3, 0, 0, 0, 0, 6, 6, 6, 0, 2, 3, 0, 0, 0, 0, 6, 6, 6, 6, 6, 6, 0, 6, 6, 6, 0, 0, 0, 1, 23, 23, 0, 23, 0]
noncomputable def scN : List Nat := [4, 6, 4, 6, 6, 8, 1, 21, 0, 22, 22, 22, 0, 23, 23, 23, 22, 22, 22, 22, 22, 22, 22, 999, 23, 23, 23, 23, 23, 23, 23, 22, 22, 0, 22, 22, 22, 23, 23, 23, 23, 22, 22, 22, 22, 22, 22, 22, 8, 9, 11, 13, 15, 17, 19, 20, 24, 1, 25, 1, 0, 26, 23, 23, 23, 23, 0]
noncomputable def fx0 (T : BT) : BT := (T.ins 20 l0).set 20 (Obj.mapSeq (· ++ seqAt T 7))
noncomputable def fx1 (n : Nat) (T : BT) : BT := (((T.ins 24 s0).set 24 (Obj.mapFields (·.setIfInBounds 0 (.ref (n + 19))))).set 24 (Obj.mapFields (·.setIfInBounds 1 (.ref (n + 19))))).set 24 (Obj.mapFields (·.setIfInBounds 2 (.ref (n + 19))))
noncomputable def fx2 (n : Nat) (T : BT) : BT := T.ins 25 { cls := .type "builtin_function_or_method", data := .fields #[.builtin "object.__init_subclass__", .ref (n + 19)] }
noncomputable def exN (n : Nat) : List Ex := [⟨.ok (.ret (.ref (n + 17))), fx0, 18, 20⟩, ⟨.ok (.ret (.ref (n + 21))), fx1 n, 22, 23⟩, ⟨.ok (.ret (.ref (n + 22))), fx2 n, 23, 24⟩]
noncomputable def oN (P : Params) (qq : Pr) (n t₀ : Nat) (T : BT) (tree : Sem PySem.Fin) (ws : List (Sem Unit → Sem PySem.Fin)) : Ob := run (S0 P) (KE P) (led qq) n t₀ none false 700 tree (cN n t₀) [] T 17 20 scN (exN n) ws
noncomputable def wN (P : Params) (qq : Pr) (n t₀ : Nat) (T : BT) (flt : Value → List Value → List Value) : Sem PySem.Fin := mkT (oN P qq n t₀ T (tN flt n t₀) [])

noncomputable def oB (P : Params) (qq : Pr) (n t₀ L : Nat) (ef : Sem Unit) (ws : List (Sem Unit → Sem PySem.Fin)) (f : BT → BT) : Ob := run (S0 P) (KE P) (led qq) n t₀ none true 700 (valT (tB P L ef)) cT [] (T0 P qq) 0 0 scB [⟨.ok (.ret (.ref (n+19))), f, 23, 24⟩] ws
/-- the tree where the class body's frame is entered -/
noncomputable def dB (P : Params) (qq : Pr) (n t₀ L : Nat) (ef : Sem Unit) : Sem PySem.Fin := mkT (oB P qq n t₀ L ef [] id)

noncomputable def TT (P : Params) (qq : Pr) (n t₀ L : Nat) : BT := (exAt (oB P qq n t₀ L eF [dB P qq n t₀ L] id) 0).T
noncomputable def oF (P : Params) (qq : Pr) (n t₀ : Nat) (T : BT) : Ob := oN P qq n t₀ T (tN fl0 n t₀) [fun _ => wN P qq n t₀ T fC]
noncomputable def fN (P : Params) (qq : Pr) (n t₀ : Nat) (T : BT) : BT := fiT (oF P qq n t₀ T)
noncomputable def oG (P : Params) (qq : Pr) (n t₀ L : Nat) : Ob := oB P qq n t₀ L eF [dB P qq n t₀ L] (fN P qq n t₀)
section
variable (P : Params) (qq : Pr) (n t₀ L : Nat)
theorem G_all : ((lds (oG P qq n t₀ L)).map (·.1) = (lds (oG P qq n t₀ L)).map (·.2) ∧ sts (oG P qq n t₀ L) = [] ∧ sfs (oG P qq n t₀ L) = [(mkT (oG P qq n t₀ L), dB P qq n t₀ L, [], cT)] ∧ mkT (oG P qq n t₀ L) = dB P qq n t₀ L eF ∧ rws (oG P qq n t₀ L) = []) ∧
    fin (oG P qq n t₀ L) = some (.ok (.ret (.ref (n + 19))), fiT (oG P qq n t₀ L), 23, 24) ∧
    exs (oG P qq n t₀ L) = [⟨true, false, [], (exAt (oG P qq n t₀ L) 0).κ, (exAt (oG P qq n t₀ L) 0).c₀, none, cN n t₀, TT P qq n t₀ L, 17, 20, ⟨.ok (.ret (.ref (n + 19))), fN P qq n t₀, 23, 24⟩⟩] := by
  refine ⟨⟨?_, ?_, ?_, ?_, ?_⟩, ?_, ?_⟩ <;> kernel_rfl
theorem G_stk (k : List (Code × Pos) → Sem Unit) : dB P qq n t₀ L (.stack k) = .stack fun st => dB P qq n t₀ L (k st) := by kernel_rfl
theorem G_load (a : Addr) (p : Option Value) (k : Obj → Sem Unit) : dB P qq n t₀ L (.load a p k) = .load a p fun o => dB P qq n t₀ L (k o) := by kernel_rfl
theorem F_flt (flt : Value → List Value → List Value) : wN P qq n t₀ (TT P qq n t₀ L) flt = wN P qq n t₀ (TT P qq n t₀ L) (fun _ _ => flt (.ref (n + 19)) [.ref (n + 19), .type "object"]) := by
  unfold wN mkT
  kernel_rfl
noncomputable def xF (k : Nat) : ExO := exAt (oF P qq n t₀ (TT P qq n t₀ L)) k
theorem F_all : ((lds (oF P qq n t₀ (TT P qq n t₀ L))).map (·.1) = (lds (oF P qq n t₀ (TT P qq n t₀ L))).map (·.2) ∧ sts (oF P qq n t₀ (TT P qq n t₀ L)) = [] ∧ sfs (oF P qq n t₀ (TT P qq n t₀ L)) = [] ∧
    rws (oF P qq n t₀ (TT P qq n t₀ L)) = [(wN P qq n t₀ (TT P qq n t₀ L) fl0, wN P qq n t₀ (TT P qq n t₀ L) fC)]) ∧
    fin (oF P qq n t₀ (TT P qq n t₀ L)) = some (.ok (.ret (.ref (n + 19))), fN P qq n t₀ (TT P qq n t₀ L), 23, 24) ∧
    exs (oF P qq n t₀ (TT P qq n t₀ L)) = [⟨false, (xF P qq n t₀ L 0).g, (xF P qq n t₀ L 0).l, (xF P qq n t₀ L 0).κ, (xF P qq n t₀ L 0).c₀, none, .builtin "proto.collect" ⟨[.ref (n + 4)], []⟩, (xF P qq n t₀ L 0).T, 17, 20, ⟨.ok (.ret (.ref (n + 17))), fx0, 18, 20⟩⟩,
  ⟨false, (xF P qq n t₀ L 1).g, (xF P qq n t₀ L 1).l, (xF P qq n t₀ L 1).κ, (xF P qq n t₀ L 1).c₀, none, .call (.type "super") ⟨[.ref (n + 19), .ref (n + 19)], []⟩, (xF P qq n t₀ L 1).T, 21, 23, ⟨.ok (.ret (.ref (n + 21))), fx1 n, 22, 23⟩⟩,
  ⟨false, (xF P qq n t₀ L 2).g, (xF P qq n t₀ L 2).l, (xF P qq n t₀ L 2).κ, (xF P qq n t₀ L 2).c₀, none, .call (.builtin "super.__getattribute__") ⟨[.ref (n + 21), .str (Str.ofString "__init_subclass__") (t₀ + 23)], []⟩, (xF P qq n t₀ L 2).T, 22, 24, ⟨.ok (.ret (.ref (n + 22))), fx2 n, 23, 24⟩⟩] ∧
    ((xF P qq n t₀ L 0).T.get 7 = some { cls := .type "list", data := .seq (seqAt (xF P qq n t₀ L 0).T 7) 0 } ∧ Nat.ble (seqAt (xF P qq n t₀ L 0).T 7).size 5 = true ∧
    (clsAt (xF P qq n t₀ L 1).T 22).map (·.mro) = some [.ref (n + 19), .type "object"] ∧
    (clsAt (xF P qq n t₀ L 2).T 22).map (·.mro) = some [.ref (n + 19), .type "object"] ∧
    (xF P qq n t₀ L 2).T.get 24 = some { cls := .type "super", data := .fields #[.ref (n + 19), .ref (n + 19), .ref (n + 19)] }) ∧
    ((((xF P qq n t₀ L 0).T.ins 20 l0).get 20).isSome = true ∧ (((xF P qq n t₀ L 1).T.ins 24 s0).get 24).isSome = true ∧ (((xF P qq n t₀ L 2).T.ins 25 { cls := .type "builtin_function_or_method", data := .fields #[.builtin "object.__init_subclass__", .ref (n + 19)] }).get 25).isSome = true) := by
  refine ⟨⟨?_, ?_, ?_, ?_⟩, ?_, ?_, ⟨?_, ?_, ?_, ?_, ?_⟩, ?_, ?_, ?_⟩ <;> kernel_rfl
end

noncomputable abbrev vv (w : World) (h₀ : Heap) (qq : Pr) (n t₀ : Nat) (g : Array GenState) (d : Drawn) (os : OsState) (top : Bool) (A : Around) (R : Result → Shared → Prop) : V :=
  ⟨PR, w, KE w.params, h₀, (led qq), n, top, A, R, g, d, t₀, os⟩
theorem fl0_at (n : Nat) : fl0 (.ref (n + 19)) [.ref (n + 19), .type "object"] = [.type "object"] := by
  unfold fl0
  rw [← PySem.W.R.filterR_eq]
  simp
theorem KE_lt (P : Params) : ((KE P).all fun p => Nat.blt p.1 174) = true := by kernel_rfl
theorem KE_out (P : Params) {a : Addr} {o : Obj} (e : (KE P).lookup a = some o) : a < 174 := by
  have z := KE_lt P
  rw [List.all_eq_true] at z
  have key : ∀ (l : Frag), l.lookup a = some o → (a, o) ∈ l := by
    intro l
    induction l with
    | nil => intro h; cases h
    | cons p l ih =>
      intro h
      obtain ⟨b, o'⟩ := p
      rw [List.lookup_cons] at h
      cases q : (a == b) with
      | true => rw [q] at h; cases h; rw [beq_iff_eq] at q; subst q; exact .head _
      | false => rw [q] at h; exact .tail _ (ih h)
  exact Nat.le_of_ble_eq_true (z _ (key _ e))
/-- what the base must know: the tables stand as the first creation left them -/
structure B2 (w : World) (h₀ : Heap) (qq : Pr) (n : Nat) : Prop where
  b : Bs w h₀ n
  lo : 174 ≤ qq.n
  hi : qq.n + 5 < n
  g33 : h₀.get? 33 = some (o0 w.params qq)
  gC : h₀.get? (qq.n + 5) = some (o6 w.params qq)
  gT : h₀.get? (qq.n + 4) = some (o5 w.params qq)
theorem mem_led {qq : Pr} {a : Nat} (h : a ∈ led qq) : a = 33 ∨ a = qq.n + 5 ∨ a = qq.n + 4 := by
  unfold led at h
  simpa using h
theorem led_out {w : World} {h₀ : Heap} {qq : Pr} {n : Nat} (b : B2 w h₀ qq n) {a : Addr} {o : Obj} (e : (KE w.params).lookup a = some o) : a ∉ led qq := by
  intro ha
  have l := KE_out _ e
  have := b.lo
  rcases mem_led ha with rfl | rfl | rfl
  · rw [KE_33] at e; cases e
  · exact absurd (show qq.n + 5 < 174 from l) (by omega)
  · exact absurd (show qq.n + 4 < 174 from l) (by omega)
theorem B2.ok {w : World} {h₀ : Heap} {qq : Pr} {n t₀ : Nat} {g : Array GenState} {d : Drawn} {os : OsState} {top : Bool} {A : Around} {R : Result → Shared → Prop} (b : B2 w h₀ qq n) : (vv w h₀ qq n t₀ g d os top A R).Ok where
  size := b.b.size
  K := b.b.K
  lt := fun a ha => by
    have h1 := b.hi
    have h2 := b.lo
    show a < n
    have h3 := b.b.lt
    rcases mem_led ha with rfl | rfl | rfl <;> omega
  nd := by
    have h2 := b.lo
    show (led qq).Nodup
    unfold led
    simp only [List.nodup_cons, List.mem_cons, List.not_mem_nil, or_false, not_or, List.nodup_nil, and_true, not_false_eq_true]
    refine ⟨⟨?_, ?_⟩, ?_⟩ <;> omega
  out := fun a o e => led_out b e
  lim := b.b.lim
  c2 := by
    show ¬ (2 : Nat) ∈ led qq
    intro ha
    have h2 := b.lo
    rcases mem_led ha with h | h | h <;> omega
section
variable {w : World} {h₀ : Heap} {qq : Pr} {n t₀ : Nat} {g : Array GenState} {d : Drawn} {os : OsState} {R : Result → Shared → Prop}
noncomputable abbrev vB (w : World) (h₀ : Heap) (qq : Pr) (n t₀ : Nat) (g : Array GenState) (d : Drawn) (os : OsState) (R : Result → Shared → Prop) : V := vv w h₀ qq n t₀ g d os false AY R
variable {L : Nat}
theorem rp_in (b : B2 w h₀ qq n) {top : Bool} {A : Around} {h : Heap} {T : BT} {m : Nat} (D : Rp (vv w h₀ qq n t₀ g d os top A R) h T m) : (KE w.params).In h := fun a o e =>
  D.keep a o (b.b.K a o e) (led_out b e)
theorem own_at {top : Bool} {A : Around} {h : Heap} {T : BT} {m : Nat} (D : Rp (vv w h₀ qq n t₀ g d os top A R) h T m) {j : Nat} {o : Obj} (e : T.get (j + 3) = some o) : h.get? (n + j) = some o := by
  have z := (D.own _ _ e).2
  rw [adr_ge (by show 3 ≤ j + 3; omega)] at z
  exact z
theorem ext1 (b : B2 w h₀ qq n) {g' : Bool} {l : List Value} {κ : List KF} {c₀ : Code} {T : BT} (hT : (clsAt T 22).map (·.mro) = some [.ref (n + 19), .type "object"]) (hI : ((T.ins 24 s0).get 24).isSome = true) {top : Bool} {A : Around} :
    Ext (vv w h₀ qq n t₀ g d os top A R) ⟨false, g', l, κ, c₀, none, .call (.type "super") ⟨[.ref (n + 19), .ref (n + 19)], []⟩, T, 21, 23, ⟨.ok (.ret (.ref (n + 21))), fx1 n, 22, 23⟩⟩ := by
  intro R' h D hR
  obtain ⟨oC, cd, e1, e2, e3⟩ := clsAt_get hT
  have hC := own_at D e1
  have hz : h.objs.size = n + 21 := D.size
  have hE : wpAny (model PR w) (BO (vv w h₀ qq n t₀ g d os top A R) κ c₀) (call (.type "super") [.ref (n + 19), .ref (n + 19)]) (fun x s' => x = .ref (n + 21) ∧ R' (.ok (.ret (.ref (n + 21)))) s') (fun _ _ => False) ⟨h, g, d, t₀ + 23, os⟩ := by
    refine call_super (C := n + 19) hC e2 e3 ?_
    rw [hz]
    refine ⟨rfl, hR _ ?_⟩
    have O := b.ok (t₀ := t₀) (g := g) (d := d) (os := os) (top := top) (A := A) (R := R)
    have D1 := D.alloc O (o := s0) rfl hI
    have g1 : (T.ins 24 s0).get 24 = some s0 := by rw [BT.get_ins s0 T 24 hI]; simp
    have D2 := D1.update O (j := 24) (f := Obj.mapFields (·.setIfInBounds 0 (.ref (n + 19)))) g1 rfl
    have g2 : ((T.ins 24 s0).set 24 (Obj.mapFields (·.setIfInBounds 0 (.ref (n + 19))))).get 24 = some (Obj.mapFields (·.setIfInBounds 0 (.ref (n + 19))) s0) := by rw [BT.get_set, if_pos rfl, g1]; rfl
    have D3 := D2.update O (j := 24) (f := Obj.mapFields (·.setIfInBounds 1 (.ref (n + 19)))) g2 rfl
    have g3 : (((T.ins 24 s0).set 24 (Obj.mapFields (·.setIfInBounds 0 (.ref (n + 19))))).set 24 (Obj.mapFields (·.setIfInBounds 1 (.ref (n + 19))))).get 24 = some (Obj.mapFields (·.setIfInBounds 1 (.ref (n + 19))) (Obj.mapFields (·.setIfInBounds 0 (.ref (n + 19))) s0)) := by rw [BT.get_set, if_pos rfl, g2]; rfl
    exact D3.update O (j := 24) (f := Obj.mapFields (·.setIfInBounds 2 (.ref (n + 19)))) g3 rfl
  refine wpAny_mono (call_node hE) (fun r s' h' => ?_) (fun _ _ z => z)
  rcases r with e | f
  · exact h'.elim
  · cases f with
    | ret x => obtain ⟨rfl, h''⟩ := h'; exact h''
    | _ => exact h'.elim
theorem ext2 (b : B2 w h₀ qq n) {g' : Bool} {l : List Value} {κ : List KF} {c₀ : Code} {T : BT} {tk : Tok} (hT : (clsAt T 22).map (·.mro) = some [.ref (n + 19), .type "object"]) (hS : T.get 24 = some { cls := .type "super", data := .fields #[.ref (n + 19), .ref (n + 19), .ref (n + 19)] })
    (hI : ((T.ins 25 { cls := .type "builtin_function_or_method", data := .fields #[.builtin "object.__init_subclass__", .ref (n + 19)] }).get 25).isSome = true) {top : Bool} {A : Around} :
    Ext (vv w h₀ qq n t₀ g d os top A R) ⟨false, g', l, κ, c₀, none, .call (.builtin "super.__getattribute__") ⟨[.ref (n + 21), .str (Str.ofString "__init_subclass__") tk], []⟩, T, 22, 24, ⟨.ok (.ret (.ref (n + 22))), fx2 n, 23, 24⟩⟩ := by
  intro R' h D hR
  obtain ⟨oC, cd, e1, e2, e3⟩ := clsAt_get hT
  have hC := own_at D e1
  have hso := own_at D hS
  have hz : h.objs.size = n + 22 := D.size
  have O := b.ok (t₀ := t₀) (g := g) (d := d) (os := os) (top := top) (A := A) (R := R)
  have D1 := D.alloc O rfl hI
  have hE : wpAny (model PR w) (BO (vv w h₀ qq n t₀ g d os top A R) κ c₀) (runValue (.call (.builtin "super.__getattribute__") ⟨[.ref (n + 21), .str (Str.ofString "__init_subclass__") tk], []⟩)) (fun x s' => x = .ref (n + 22) ∧ R' (.ok (.ret (.ref (n + 22)))) s') (fun _ _ => False) ⟨h, g, d, t₀ + 24, os⟩ := by
    refine wpAny_call_entry F.ks_slot_super_ga ⟨_, hso, rfl⟩ F.ks_entry_super_ga ?_ (F.ks_gaArgs_super _ _)
    refine ga_super (rp_in b D) (peekE w) hC e2 e3 hso ?_
    rw [hz]
    exact ⟨_, rfl, rfl, hR _ D1⟩
  refine wpAny_mono (call_node hE) (fun r s' h' => ?_) (fun _ _ z => z)
  rcases r with e | f
  · exact h'.elim
  · cases f with
    | ret x => obtain ⟨rfl, h''⟩ := h'; exact h''
    | _ => exact h'.elim
theorem ext0 (b : B2 w h₀ qq n) {g' : Bool} {l : List Value} {κ : List KF} {c₀ : Code} {T : BT} (hT : T.get 7 = some { cls := .type "list", data := .seq (seqAt T 7) 0 }) (hs : Nat.ble (seqAt T 7).size 5 = true)
    (hI : ((T.ins 20 l0).get 20).isSome = true) {top : Bool} {A : Around} :
    Ext (vv w h₀ qq n t₀ g d os top A R) ⟨false, g', l, κ, c₀, none, .builtin "proto.collect" ⟨[.ref (n + 4)], []⟩, T, 17, 20, ⟨.ok (.ret (.ref (n + 17))), fx0, 18, 20⟩⟩ := by
  intro R' h D hR
  have hl := own_at D hT
  have hz : h.objs.size = n + 17 := D.size
  have O := b.ok (t₀ := t₀) (g := g) (d := d) (os := os) (top := top) (A := A) (R := R)
  have D1 := D.alloc O (o := l0) rfl hI
  have g1 : (T.ins 20 l0).get 20 = some l0 := by rw [BT.get_ins l0 T 20 hI]; simp
  have D2 := D1.update O (j := 20) (f := Obj.mapSeq (· ++ seqAt T 7)) g1 rfl
  have hE : wpAny (model PR w) (BO (vv w h₀ qq n t₀ g d os top A R) κ c₀) (runValue (.builtin "proto.collect" ⟨[.ref (n + 4)], []⟩)) (fun x s' => x = .ref (n + 17) ∧ R' (.ok (.ret (.ref (n + 17)))) s') (fun _ _ => False) ⟨h, g, d, t₀ + 20, os⟩ := by
    refine collect_run hl rfl rfl (Nat.le_of_ble_eq_true hs) ?_
    show (Value.ref h.objs.size = .ref (n + 17)) ∧ R' _ ⟨(h.push l0).update h.objs.size (Obj.mapSeq (· ++ seqAt T 7)), g, d, t₀ + 20, os⟩
    rw [hz]
    exact ⟨rfl, hR _ D2⟩
  refine wpAny_mono (call_node hE) (fun r s' h' => ?_) (fun _ _ z => z)
  rcases r with e | f
  · exact h'.elim
  · cases f with
    | ret x => obtain ⟨rfl, h''⟩ := h'; exact h''
    | _ => exact h'.elim
/-- type.__new__ on the class statement's namespace -/
theorem new_code (b : B2 w h₀ qq n) {A : Around} (hA1 : A.handled = none) (hA2 : A.depth ≤ 950) (hA3 : A.units ≤ 400) {R' R₂ : Result → Shared → Prop} {top : Bool} {A' : Around} {h : Heap} (D : Rp (vv w h₀ qq n t₀ g d os top A' R₂) h (TT w.params qq n t₀ L) 17)
    (hR : ∀ h', Rp (vv w h₀ qq n t₀ g d os top A' R₂) h' (fN w.params qq n t₀ (TT w.params qq n t₀ L)) 23 → R' (.ok (.ret (.ref (n + 19)))) ⟨h', g, d, t₀ + 24, os⟩) : codeAny (model PR w) A (cN n t₀) R' ⟨h, g, d, t₀ + 20, os⟩ := by
  refine weakC (B := AY) hA1 hA2 rfl rfl hA3 ?_
  have O := b.ok (t₀ := t₀) (g := g) (d := d) (os := os) (top := false) (A := AY) (R := R')
  obtain ⟨⟨f1, f2, f3, f4⟩, f5, f6, ⟨f7, f8, f9, f10, f11⟩, f12, f13, f14⟩ := F_all w.params qq n t₀ L
  have entry : entryFor table "type.__new__" = some Builtin.«type.__new__» := entryFor_of_tree (by kernel_rfl)
  have ht : denote table (cN n t₀) = tN fl0 n t₀ := by
    have e1 : denote table (cN n t₀) = Builtin.«type.__new__» (argN n t₀) := den_b entry
    rw [e1, Fast.te4202317264376624991]
    exact (newP fl0 (argN n t₀)).2 fun _ _ => rfl
  have D2 : Rp (vB w h₀ qq n t₀ g d os R') h (TT w.params qq n t₀ L) 17 := rp_of (v := vv w h₀ qq n t₀ g d os top A' R₂) rfl rfl rfl D
  have G : Good (vB w h₀ qq n t₀ g d os R') (oF w.params qq n t₀ (TT w.params qq n t₀ L)) := by
    refine good_of f1 (fun q hq => by rw [f2] at hq; cases hq) (fun q hq => by rw [f3] at hq; cases hq) (fun x hx => ?_) (fun q hq => ?_) f5 (fun h' D' => ?_)
    · rw [f6] at hx
      simp only [List.mem_cons, List.not_mem_nil, or_false] at hx
      rcases hx with rfl | rfl | rfl
      · exact ext0 b f7 f8 f12
      · exact ext1 b f9 f13
      · exact ext2 b f10 f11 f14
    · rw [f4] at hq
      simp only [List.mem_cons, List.not_mem_nil, or_false] at hq
      subst hq
      show wN w.params qq n t₀ (TT w.params qq n t₀ L) fl0 = wN w.params qq n t₀ (TT w.params qq n t₀ L) fC
      rw [F_flt, fl0_at]
      rfl
    · exact hR h' (rp_of (v := vB w h₀ qq n t₀ g d os R') rfl rfl rfl D')
  unfold oF oN at G
  exact startC (v := vB w h₀ qq n t₀ g d os R') O (hn := none) rfl rfl ht D2 G
end

theorem G_dep (w : World) (h₀ : Heap) (qq : Pr) (n t₀ L : Nat) (g : Array GenState) (d : Drawn) (os : OsState) (R : Result → Shared → Prop) :
    (Nat.ble (AO (vv w h₀ qq n t₀ g d os true AZ R) (exAt (oG w.params qq n t₀ L) 0).κ).depth 950 && Nat.ble (AO (vv w h₀ qq n t₀ g d os true AZ R) (exAt (oG w.params qq n t₀ L) 0).κ).units 400) = true := by kernel_rfl
theorem G_hd (w : World) (h₀ : Heap) (qq : Pr) (n t₀ L : Nat) (g : Array GenState) (d : Drawn) (os : OsState) (R : Result → Shared → Prop) :
    (AO (vv w h₀ qq n t₀ g d os true AZ R) (exAt (oG w.params qq n t₀ L) 0).κ).handled = none := by kernel_rfl
section
variable {w : World} {h₀ : Heap} {qq : Pr} {n t₀ : Nat} {g : Array GenState} {d : Drawn} {os : OsState} {L : Nat}
theorem rp_start (b : B2 w h₀ qq n) {top : Bool} {A : Around} {R : Result → Shared → Prop} : Rp (vv w h₀ qq n t₀ g d os top A R) h₀ (T0 w.params qq) 0 := by
  refine ⟨b.b.size, fun j o e => ?_, fun b' o e _ => e⟩
  have e0 := BT.get_ins (o0 w.params qq) .nil 0 rfl
  have e1 := BT.get_ins (o6 w.params qq) (BT.ins .nil 0 (o0 w.params qq)) 1 rfl
  have e2 := BT.get_ins (o5 w.params qq) ((BT.ins .nil 0 (o0 w.params qq)).ins 1 (o6 w.params qq)) 2 rfl
  have hj : (T0 w.params qq).get j = if j = 2 then some (o5 w.params qq) else if j = 1 then some (o6 w.params qq) else if j = 0 then some (o0 w.params qq) else none := by
    unfold T0
    rw [e2 j]
    by_cases q2 : j = 2
    · rw [if_pos q2, if_pos q2]
    · rw [if_neg q2, if_neg q2, e1 j]
      by_cases q1 : j = 1
      · rw [if_pos q1, if_pos q1]
      · rw [if_neg q1, if_neg q1, e0 j]
        rfl
  rw [hj] at e
  by_cases q2 : j = 2
  · subst q2
    rw [if_pos rfl] at e
    cases e
    exact ⟨by show 2 < 3 + 0; omega, b.gT⟩
  · rw [if_neg q2] at e
    by_cases q1 : j = 1
    · subst q1
      rw [if_pos rfl] at e
      cases e
      exact ⟨by show 1 < 3 + 0; omega, b.gC⟩
    · rw [if_neg q1] at e
      by_cases q0 : j = 0
      · subst q0
        rw [if_pos rfl] at e
        cases e
        exact ⟨by show 0 < 3 + 0; omega, b.g33⟩
      · rw [if_neg q0] at e; cases e
theorem build_class (b : B2 w h₀ qq n) {A : Around} (hA1 : A.handled = none) (hA2 : A.depth ≤ 900) (hA3 : A.units ≤ 200) {Q E : Value → Shared → Prop}
    (hQ : ∀ h', Rp (vv w h₀ qq n t₀ g d os true AZ (postV Q E)) h' (fiT (oG w.params qq n t₀ L)) 23 → Q (.ref (n + 19)) ⟨h', g, d, t₀ + 24, os⟩) :
    wpAny (model PR w) A (buildClass (Str.ofString "K") (Str.ofString "cmp_to_key.<locals>.K") [.type "object"] [] (cBody (kS w.params)) (cScope (kS w.params)) (cStat (kS w.params)) (cPos (kS w.params)).line (envK w.params L) (cPos (kS w.params)) none) Q E ⟨h₀, g, d, t₀, os⟩ := by
  refine weak (B := AZ) hA1 hA2 rfl rfl hA3 ?_
  have et : buildClass (Str.ofString "K") (Str.ofString "cmp_to_key.<locals>.K") [.type "object"] [] (cBody (kS w.params)) (cScope (kS w.params)) (cStat (kS w.params)) (cPos (kS w.params)).line (envK w.params L) (cPos (kS w.params)) none = tB w.params L eF := by
    rw [Fast.te1785580099245652887]
    exact (bcP eF _ _ _ _ _ _ _ _ _ _ _).2 rfl
  rw [et]
  have O := b.ok (t₀ := t₀) (g := g) (d := d) (os := os) (top := true) (A := AZ) (R := postV Q E)
  obtain ⟨⟨g1, g2, g3, g4, g5⟩, g6, g7⟩ := G_all w.params qq n t₀ L
  have dep := G_dep w h₀ qq n t₀ L g d os (postV Q E)
  rw [Bool.and_eq_true] at dep
  have G : Good (vv w h₀ qq n t₀ g d os true AZ (postV Q E)) (oG w.params qq n t₀ L) := by
    refine good_of g1 (fun q hq => by rw [g2] at hq; cases hq) (fun q hq => ?_) (fun x hx => ?_) (fun q hq => by rw [g5] at hq; cases hq) g6 (fun h' D' => hQ h' D')
    · rw [g3] at hq
      simp only [List.mem_cons, List.not_mem_nil, or_false] at hq
      subst hq
      exact ⟨g4, G_stk _ _ _ _ _, G_load _ _ _ _ _, rfl⟩
    · rw [g7] at hx
      simp only [List.mem_cons, List.not_mem_nil, or_false] at hx
      subst hx
      intro R' h D hR
      exact new_code (L := L) b (G_hd w h₀ qq n t₀ L g d os (postV Q E)) (Nat.le_of_ble_eq_true dep.1) (Nat.le_of_ble_eq_true dep.2) D fun h' D' => hR h' D'
  unfold oG oB at G
  exact startV (v := vv w h₀ qq n t₀ g d os true AZ (postV Q E)) O (hn := none) rfl rfl rfl (t := tB w.params L eF) (N := 700) (c := cT) (T := T0 w.params qq) (m := 0) (i := 0) (h := h₀) (sc := scB) (ex := [⟨.ok (.ret (.ref (n + 19))), fN w.params qq n t₀, 23, 24⟩]) (ws := [dB w.params qq n t₀ L]) (rp_start b) G
end

end Mine.Eng.L2
end
section
open PySem PySem.W PySem.W.X PySem.Spec PySem.Calls PyProof.Rows
set_option maxRecDepth 100000
set_option maxHeartbeats 4000000
namespace Mine.Eng
noncomputable def fdB : Stmt → List Stmt
  | .FunctionDef _ _ b _ _ _ _ _ _ _ => b
  | _ => []
noncomputable def fdP : Stmt → Arguments
  | .FunctionDef _ a _ _ _ _ _ _ _ _ => a
  | _ => default
noncomputable def fdS : Stmt → Scope
  | .FunctionDef _ _ _ _ _ _ s _ _ _ => s
  | _ => default
noncomputable def atS : List Stmt → Nat → Stmt
  | [], _ => .Pass default
  | s :: _, 0 => s
  | _ :: r, k + 1 => atS r k
noncomputable def sI (P : Params) : Stmt := atS (cBody (kS P)) 2
noncomputable def sL (P : Params) : Stmt := atS (cBody (kS P)) 3
noncomputable def cdOf (o : Obj) : ClassData := match o.data with
  | .cls c => c
  | _ => default
noncomputable def pmOf (o : Obj) : Value := match o.data with
  | .func f => f.pyModule
  | _ => .none
noncomputable def ctOf (o : Obj) : Value := match o.data with
  | .func f => f.closureTuple
  | _ => .none
noncomputable def fldOf (o : Obj) : Array Value := match o.data with
  | .fields vs => vs
  | _ => #[]
noncomputable def nsO (o : Obj) (name : Str) : Option (Option Value) := match o.data with
  | .dict es _ => (match es.toList.find? (·.key.isStr name) with
      | some e => some (some e.val)
      | none => if es.toList.any (·.refKey) then none else some none)
  | _ => none
noncomputable def tkOf : Option Value → Tok
  | some (.str _ t) => t
  | _ => 0
/-- K's objects: the class, its namespace, the slot's descriptor, __init__, __lt__, their codes -/
structure ClsD (P : Params) (cell C ns p fI fL cI cL : Nat) (oC oN oP oI oL oci ocl : Obj) : Prop where
  cls : oC.cls = .type "type"
  dat : oC.data = .cls (cdOf oC)
  mro : (cdOf oC).mro = [.ref C, .type "object"]
  ns : (cdOf oC).ns = ns
  ab : (cdOf oC).abstract = false
  hd : (cdOf oC).hasDel = false
  hdict : (cdOf oC).hasDict = false
  sn : (cdOf oC).slotNames = [Str.ofString "obj"]
  new : (oC.slots.toList[4]?).join = some (.builtin "object.__new__")
  n1 : nsO oN (Str.ofString "__init__") = some (some (.ref fI))
  n2 : nsO oN (Str.ofString "__lt__") = some (some (.ref fL))
  n3 : nsO oN (Str.ofString "obj") = some (some (.ref p))
  n4 : nsO oN (Str.ofString "__setattr__") = some none
  n5 : nsO oN (Str.ofString "__getattribute__") = some none
  n6 : nsO oN (Str.ofString "__getattr__") = some none
  pd : ∃ tk, oP = { cls := .type "member_descriptor", data := .fields #[.str (Str.ofString "obj") tk, .ref C, .builtin "proto.slot", .builtin "proto.slot#set", .int 0 0] }
  ic : oI.cls = .type "function"
  id : oI.data = .func (fnX (Str.ofString "__init__") (Str.ofString "cmp_to_key.<locals>.K.__init__") (fdP (sI P)) (fdB (sI P)) (fdS (sI P)) [] .none .none .none (pmOf oI) none (.ref cI) .none)
  lc : oL.cls = .type "function"
  ld : oL.data = .func (fnX (Str.ofString "__lt__") (Str.ofString "cmp_to_key.<locals>.K.__lt__") (fdP (sL P)) (fdB (sL P)) (fdS (sL P)) [(Str.ofString "mycmp", cell)] .none .none .none (pmOf oL) none (.ref cL) (ctOf oL))
  ci : oci.data = .fields (fldOf oci)
  ci1 : ∃ t, (fldOf oci)[1]? = some (.str (Str.ofString "cmp_to_key.<locals>.K.__init__") t)
  cl : ocl.data = .fields (fldOf ocl)
  cl1 : ∃ t, (fldOf ocl)[1]? = some (.str (Str.ofString "cmp_to_key.<locals>.K.__lt__") t)
noncomputable def ob (T : BT) (j : Nat) : Obj := (T.get j).getD default
noncomputable def TA (P : Params) (n t₀ L : Nat) : BT := fiT (oG P n t₀ L)
section
variable (P : Params) (n t₀ L : Nat)
theorem shape1 : ClsD P (L + 1) (n + 58) (n + 57) (n + 59) (n + 14) (n + 22) (n + 13) (n + 21) (ob (TA P n t₀ L) 59) (ob (TA P n t₀ L) 58) (ob (TA P n t₀ L) 60) (ob (TA P n t₀ L) 15) (ob (TA P n t₀ L) 23) (ob (TA P n t₀ L) 14) (ob (TA P n t₀ L) 22) := by
  refine ⟨?_, ?_, ?_, ?_, ?_, ?_, ?_, ?_, ?_, ?_, ?_, ?_, ?_, ?_, ?_, ⟨tkOf ((fldOf (ob (TA P n t₀ L) 60))[0]?), ?_⟩, ?_, ?_, ?_, ?_, ?_, ⟨tkOf ((fldOf (ob (TA P n t₀ L) 14))[1]?), ?_⟩, ?_, ⟨tkOf ((fldOf (ob (TA P n t₀ L) 22))[1]?), ?_⟩⟩ <;> kernel_rfl
theorem have1 : (((TA P n t₀ L).get 0).isSome && ((TA P n t₀ L).get 5).isSome && ((TA P n t₀ L).get 6).isSome && ((TA P n t₀ L).get 59).isSome && ((TA P n t₀ L).get 58).isSome && ((TA P n t₀ L).get 60).isSome && ((TA P n t₀ L).get 15).isSome && ((TA P n t₀ L).get 23).isSome && ((TA P n t₀ L).get 14).isSome && ((TA P n t₀ L).get 22).isSome) = true := by kernel_rfl
end
section
open L2 (Pr)
variable (P : Params) (qq : Pr) (n t₀ L : Nat)
noncomputable def TB (P : Params) (qq : Pr) (n t₀ L : Nat) : BT := fiT (L2.oG P qq n t₀ L)
theorem shape2 : ClsD P (L + 1) (n + 19) (n + 18) (n + 20) (n + 5) (n + 7) (qq.n + 13) (qq.n + 21) (ob (TB P qq n t₀ L) 22) (ob (TB P qq n t₀ L) 21) (ob (TB P qq n t₀ L) 23) (ob (TB P qq n t₀ L) 8) (ob (TB P qq n t₀ L) 10) (ob (TA P qq.n qq.t qq.L) 14) (ob (TA P qq.n qq.t qq.L) 22) := by
  refine ⟨?_, ?_, ?_, ?_, ?_, ?_, ?_, ?_, ?_, ?_, ?_, ?_, ?_, ?_, ?_, ⟨tkOf ((fldOf (ob (TB P qq n t₀ L) 23))[0]?), ?_⟩, ?_, ?_, ?_, ?_, ?_, ⟨tkOf ((fldOf (ob (TA P qq.n qq.t qq.L) 14))[1]?), ?_⟩, ?_, ⟨tkOf ((fldOf (ob (TA P qq.n qq.t qq.L) 22))[1]?), ?_⟩⟩ <;> kernel_rfl
theorem have2 : (((TB P qq n t₀ L).get 22).isSome && ((TB P qq n t₀ L).get 21).isSome && ((TB P qq n t₀ L).get 23).isSome && ((TB P qq n t₀ L).get 8).isSome && ((TB P qq n t₀ L).get 10).isSome) = true := by kernel_rfl
theorem same2 : (TB P qq n t₀ L).get 0 = some (ob (TA P qq.n qq.t qq.L) 0) ∧ (TB P qq n t₀ L).get 1 = some (ob (TA P qq.n qq.t qq.L) 6) ∧ (TB P qq n t₀ L).get 2 = some (ob (TA P qq.n qq.t qq.L) 5) := by
  refine ⟨?_, ?_, ?_⟩ <;> kernel_rfl
end
end Mine.Eng
end
section
open PySem PySem.W PySem.W.X PySem.Spec PySem.Calls PyProof.Rows
set_option maxRecDepth 100000
set_option maxHeartbeats 4000000
namespace Mine.Eng
/-- the class as a fragment of its own -/
noncomputable def KC (C ns p fI fL : Nat) (oC oN oP oI oL : Obj) : Frag := [(C, oC), (ns, oN), (p, oP), (fI, oI), (fL, oL)]
section
variable {P : Params} {cell C ns p fI fL cI cL : Nat} {oC oN oP oI oL oci ocl : Obj}
theorem lk_hit {K : Frag} {a : Addr} {o : Obj} : List.lookup a (((a, o) :: K : Frag)) = some o := by rw [List.lookup_cons, beq_self_eq_true]
theorem lk_ne {K : Frag} {a b : Addr} {o : Obj} (h : a ≠ b) : List.lookup a (((b, o) :: K : Frag)) = K.lookup a := by
  rw [List.lookup_cons, show (a == b) = false from beq_eq_false_iff_ne.mpr h]
theorem lk_C : (KC C ns p fI fL oC oN oP oI oL).lookup C = some oC := lk_hit
theorem lk_ns (h : ns ≠ C) : (KC C ns p fI fL oC oN oP oI oL).lookup ns = some oN := (lk_ne h).trans lk_hit
theorem lk_p (h : p ≠ C) (h2 : p ≠ ns) : (KC C ns p fI fL oC oN oP oI oL).lookup p = some oP := (lk_ne h).trans ((lk_ne h2).trans lk_hit)
theorem lk_fI (h : fI ≠ C) (h2 : fI ≠ ns) (h3 : fI ≠ p) : (KC C ns p fI fL oC oN oP oI oL).lookup fI = some oI := (lk_ne h).trans ((lk_ne h2).trans ((lk_ne h3).trans lk_hit))
theorem lk_fL (h : fL ≠ C) (h2 : fL ≠ ns) (h3 : fL ≠ p) (h4 : fL ≠ fI) : (KC C ns p fI fL oC oN oP oI oL).lookup fL = some oL := (lk_ne h).trans ((lk_ne h2).trans ((lk_ne h3).trans ((lk_ne h4).trans lk_hit)))
/-- the class's addresses are apart -/
structure Apart (C ns p fI fL : Nat) : Prop where
  a1 : ns ≠ C
  a2 : p ≠ C
  a3 : p ≠ ns
  a4 : fI ≠ C
  a5 : fI ≠ ns
  a6 : fI ≠ p
  a7 : fL ≠ C
  a8 : fL ≠ ns
  a9 : fL ≠ p
  a10 : fL ≠ fI
/-- what the rules ask of the class -/
structure ClsF (K : Frag) (C p fI fL : Nat) : Prop where
  mkc : makesIn K C = true
  fi : findIn K (.ref C) (Str.ofString "__init__") = some (some (.ref fI))
  ti : typeIn K (.ref fI) = some (.type "function")
  lt : findIn K (.ref C) (Str.ofString "__lt__") = some (some (.ref fL))
  tl : typeIn K (.ref fL) = some (.type "function")
  sa : findIn K (.ref C) (Str.ofString "__setattr__") = some (some (.builtin "object.__setattr__"))
  ga : findIn K (.ref C) (Str.ofString "__getattribute__") = some (some (.builtin "object.__getattribute__"))
  gt : findIn K (.ref C) (Str.ofString "__getattr__") = some none
  ob : findIn K (.ref C) (Str.ofString "obj") = some (some (.ref p))
  tp : typeIn K (.ref p) = some (.type "member_descriptor")
  tk : takerIn K C (Str.ofString "obj") = some (some (.ref p))
  sl : slotIn K p C = some 0
  po : plainOver K C = true
  ic : isClsIn K C = true
  pg : specialIn K (.ref p) (Str.ofString "__get__") = some (some (.builtin "member_descriptor.__get__"))
  pt : takesIn K (.ref p) = some true
theorem cls_facts (D : ClsD P cell C ns p fI fL cI cL oC oN oP oI oL oci ocl) (a : Apart C ns p fI fL) : ClsF (KC C ns p fI fL oC oN oP oI oL) C p fI fL := by
  obtain ⟨oCc, oCd, oCt, oCs⟩ := oC
  have h1 : oCc = .type "type" := D.cls
  have h2 : oCt = .cls (cdOf ⟨oCc, oCd, oCt, oCs⟩) := D.dat
  have hm := D.mro
  have hns := D.ns
  have hab := D.ab
  have hhd := D.hd
  have hsn := D.sn
  have hnew := D.new
  generalize cdOf ⟨oCc, oCd, oCt, oCs⟩ = cd at *
  subst h1
  subst h2
  have hC : (KC C ns p fI fL ⟨.type "type", oCd, .cls cd, oCs⟩ oN oP oI oL).lookup C = some ⟨.type "type", oCd, .cls cd, oCs⟩ := lk_C
  have hN : (KC C ns p fI fL ⟨.type "type", oCd, .cls cd, oCs⟩ oN oP oI oL).lookup ns = some oN := lk_ns a.a1
  have hP : (KC C ns p fI fL ⟨.type "type", oCd, .cls cd, oCs⟩ oN oP oI oL).lookup p = some oP := lk_p a.a2 a.a3
  have hI : (KC C ns p fI fL ⟨.type "type", oCd, .cls cd, oCs⟩ oN oP oI oL).lookup fI = some oI := lk_fI a.a4 a.a5 a.a6
  have hL : (KC C ns p fI fL ⟨.type "type", oCd, .cls cd, oCs⟩ oN oP oI oL).lookup fL = some oL := lk_fL a.a7 a.a8 a.a9 a.a10
  generalize KC C ns p fI fL ⟨.type "type", oCd, .cls cd, oCs⟩ oN oP oI oL = K at *
  have hnsO : ∀ name, nsIn K ns name = nsO oN name := fun name => by
    unfold nsIn nsO
    rw [hN]
    obtain ⟨c, d, dt, sl⟩ := oN
    cases dt <;> rfl
  have hown : ∀ name, ownIn K name (.ref C) = nsO oN name := fun name => by
    show (match K.lookup C with
      | some ⟨_, _, .cls cd, _⟩ => nsIn K cd.ns name
      | _ => none) = _
    rw [hC]
    show nsIn K cd.ns name = _
    rw [hns, hnsO]
  have hfind : ∀ name, findIn K (.ref C) name = alongIn K name [.ref C, .type "object"] := fun name => by
    show (match K.lookup C with
      | some ⟨_, _, .cls cd, _⟩ => alongIn K name cd.mro
      | _ => none) = _
    rw [hC]
    show alongIn K name cd.mro = _
    rw [hm]
  have yes : ∀ name v, nsO oN name = some (some v) → findIn K (.ref C) name = some (some v) := fun name v e => by
    rw [hfind]
    show (match ownIn K name (.ref C) with
      | some (some v) => some (some v)
      | some none => alongIn K name [.type "object"]
      | none => none) = _
    rw [hown, e]
  have no : ∀ name, nsO oN name = some none → findIn K (.ref C) name = alongIn K name [.type "object"] := fun name e => by
    rw [hfind]
    show (match ownIn K name (.ref C) with
      | some (some v) => some (some v)
      | some none => alongIn K name [.type "object"]
      | none => none) = _
    rw [hown, e]
  have hcls : clsIn K C = some cd := by
    unfold clsIn
    rw [hC]
  have tC : typeIn K (.ref C) = some (.type "type") := by
    show (K.lookup C).map (·.cls) = _
    rw [hC]
    rfl
  have tP : typeIn K (.ref p) = some (.type "member_descriptor") := by
    obtain ⟨tk, e⟩ := D.pd
    show (K.lookup p).map (·.cls) = _
    rw [hP, e]
    rfl
  have e : takesIn K (.ref p) = some true := by
    have : ∃ v, fastLookup "member_descriptor" (Str.ofString "__set__") = some (some v) := ⟨.builtin "member_descriptor.__set__", by kernel_rfl⟩
    obtain ⟨v, q⟩ := this
    have q' : specialIn K (.ref p) "__set__" = some (some v) := by
      unfold specialIn
      rw [tP]
      exact q
    unfold takesIn
    rw [q']
  refine ⟨?_, yes _ _ D.n1, ?_, yes _ _ D.n2, ?_, ?_, ?_, ?_, yes _ _ D.n3, tP, ?_, ?_, ?_, ?_, ?_, e⟩
  · unfold makesIn
    rw [hC]
    dsimp only
    have e1 : specialIn K (.ref C) (Str.ofString "__call__") = some (some (.builtin "type.__call__")) := by
      unfold specialIn
      rw [tC]
      show fastLookup "type" (Str.ofString "__call__") = _
      kernel_rfl
    have e2 : instIn K (.ref C) (.type "type") = some true := by
      unfold instIn
      rw [tC]
      show subIn K (.type "type") (.type "type") = _
      unfold subIn
      kernel_rfl
    have e1' : (specialIn K (.ref C) (Str.ofString "__call__") == some (some (.builtin "type.__call__"))) = true := by rw [e1]; simp
    have e2' : (instIn K (.ref C) (.type "type") == some true) = true := by rw [e2]; rfl
    have e3 : ((oCs.toList[4]?).join == some (.builtin "object.__new__")) = true := by
      have : (oCs.toList[4]?).join = some (.builtin "object.__new__") := hnew
      rw [this]; simp
    have e1'' : (specialIn K (.ref C) "__call__" == some (some (.builtin "type.__call__"))) = true := e1'
    rw [hab, hhd, hm, e3, e1'', e2']
    simp
  · show (K.lookup fI).map (·.cls) = _
    rw [hI, Option.map_some, D.ic]
  · show (K.lookup fL).map (·.cls) = _
    rw [hL, Option.map_some, D.lc]
  · rw [no _ D.n4]; kernel_rfl
  · rw [no _ D.n5]; kernel_rfl
  · rw [no _ D.n6]; kernel_rfl
  · unfold takerIn
    rw [yes _ _ D.n3]
    show (takesIn K (.ref p)).map _ = _
    rw [e]
    rfl
  · obtain ⟨tk, e⟩ := D.pd
    unfold slotIn recIn
    rw [hP, e, hcls]
    show (if _ then some (cd.slotNames.length - 1 - _) else none) = _
    rw [hm, hsn]
    simp
  · unfold plainOver
    rw [hcls]
    show onlyObject cd.mro = true
    rw [hm]
    rfl
  · unfold isClsIn
    rw [hcls]
    rfl
  · unfold specialIn
    rw [tP]
    show fastLookup "member_descriptor" (Str.ofString "__get__") = _
    kernel_rfl
end
end Mine.Eng
end
section
example : Mine.Stp True := by first | (walk1; fail) | (w_top off; exact Mine.Stp.to trivial)
open PySem PySem.W PySem.W.X PySem.Spec PySem.Calls PyProof.Rows Mine
set_option maxRecDepth 100000
set_option maxHeartbeats 4000000
namespace Mine.Eng
/-- what the walk needs of the class, in the heap -/
structure ClsN (P : Params) (cell C ns p fI fL cI cL : Nat) (oC oN oP oI oL oci ocl : Obj) (news : List (Addr × Obj)) : Prop where
  D : ClsD P cell C ns p fI fL cI cL oC oN oP oI oL oci ocl
  a : Apart C ns p fI fL
  mC : (C, oC) ∈ news
  mN : (ns, oN) ∈ news
  mP : (p, oP) ∈ news
  mI : (fI, oI) ∈ news
  mL : (fL, oL) ∈ news
  ci : (cI, oci) ∈ news
  cl : (cL, ocl) ∈ news
theorem kc_in {C ns p fI fL : Nat} {oC oN oP oI oL : Obj} {h : Heap} (h1 : h.get? C = some oC) (h2 : h.get? ns = some oN) (h3 : h.get? p = some oP) (h4 : h.get? fI = some oI) (h5 : h.get? fL = some oL) : (KC C ns p fI fL oC oN oP oI oL).In h := fun a o e => by
  have key : ∀ (l : Frag), (∀ q ∈ l, h.get? q.1 = some q.2) → l.lookup a = some o → h.get? a = some o := by
    intro l
    induction l with
    | nil => intro _ e; cases e
    | cons q l ih =>
      intro hl e
      obtain ⟨b, o'⟩ := q
      rw [List.lookup_cons] at e
      cases z : (a == b) with
      | true => rw [z] at e; cases e; rw [beq_iff_eq] at z; subst z; exact hl _ (.head _)
      | false => rw [z] at e; exact ih (fun q hq => hl q (.tail _ hq)) e
  refine key _ (fun q hq => ?_) e
  simp only [KC, List.mem_cons, List.not_mem_nil, or_false] at hq
  rcases hq with rfl | rfl | rfl | rfl | rfl
  · exact h1
  · exact h2
  · exact h3
  · exact h4
  · exact h5
theorem ClsN.inH {P : Params} {cell C ns p fI fL cI cL : Nat} {oC oN oP oI oL oci ocl : Obj} {news news' : List (Addr × Obj)} {h₀ h : Heap} {L : Addr} (c : ClsN P cell C ns p fI fL cI cL oC oN oP oI oL oci ocl news) (N : News h₀ L h news') (hs : ∀ q ∈ news, q ∈ news') : (KC C ns p fI fL oC oN oP oI oL).In h :=
  kc_in (N _ (hs _ c.mC)).1 (N _ (hs _ c.mN)).1 (N _ (hs _ c.mP)).1 (N _ (hs _ c.mI)).1 (N _ (hs _ c.mL)).1
theorem k_make (w : World) (news : List (Addr × Obj)) (cell C ns pp fI fL cI cL : Nat) (oC oN oP oI oL oci ocl : Obj) (v : Value)
   (p : Program) (loose : List Str) (mean : ExcName → Option Value) (mg mb : Str → Option Value) (dp un : Nat) (gd : Option (List Code)) (cn : Str) (cs : Scope) (a : Addr) (ccd : Value) (cl : List (Str × Addr)) (outer : List Env) (A₀ : Around) (base h₀ : Heap) (L : Addr) (m : Str → Option Value) (s : Shared) (Q E : Value → Shared → Prop)
    (B : Below A₀ base outer h₀) (F : Fr h₀ L s.heap m) (X : (hd.heap_1 w.params).In h₀) (N : News h₀ L s.heap news)
    (T : Top p loose mean mg mb h₀) (hk : cs.kind = .function) (hdp : dp + 8 < recursionLimit) (hu : un + 64 < cLine)
    (Z : ClsN w.params cell C ns pp fI fL cI cL oC oN oP oI oL oci ocl news)
    (hret : ∀ (x dx : Nat) h' tk', Fr h₀ L h' m → News h₀ L h' ((x, ({ cls := .ref C, dict := some dx, data := .plain, slots := #[some v] } : Obj)) :: (dx, emptyDict) :: news) → (∀ q ∈ news, q.1 < dx) → dx < x → Q (.ref x) { s with heap := h', toks := tk' }) :
    wpAny (model PR w) (ktrTop dp un gd cn cs L a ccd cl outer) (call (.ref C) [v]) Q E s := by
  unfold PR
  revert X; k_fill; intro X
  have Y := cls_facts Z.D Z.a
  refine wpAny_call ?_
  refine make_K F N (Z.inH N fun _ q => q) Y.mkc Y.fi Y.ti fun x dx h' F1 N1 lC l2 => ?_
  have hid := Z.D.id
  conv at hid => rhs; arg 1; arg 3; whnf
  conv at hid => rhs; arg 1; arg 4; arg 1; whnf
  conv at hid => rhs; arg 1; arg 5; whnf
  refine callX_plain (binds := [(Str.ofString "self", .ref x), (Str.ofString "obj", v)]) B F1 N1 T.nolimit rfl rfl hk (N1 _ (.tail _ (.tail _ Z.mI))).1 hid ?hc ?hr ?hb ?hl ?_ ?hcell ?h1 ?h2 ?h3
  case hc =>
    obtain ⟨t, e⟩ := Z.D.ci1
    exact ⟨cI, oci, _, t, rfl, (N1 _ (.tail _ (.tail _ Z.ci))).1, Z.D.ci, e⟩
  case hr => ktr_room
  case hb => exact BindsTo.of_eq rfl
  case h1 => exact rfl
  case h2 => exact rfl
  case h3 => exact rfl
  case hl => exact locs rfl
  case hcell => decide
  intro g' L' h' FG' F' N' B' st l1
  have X' := X.keeps st
  have T' := T.keeps st
  clear st
  try dsimp only
  try k_fold
  k_steps
  have XC := Z.inH N' fun _ q => .tail _ (.tail _ q)
  have I : InstAt h' x (instObj C dx) C (some emptyDict) := InstAt.of_news N' (.head _) (.tail _ (.head _))
  have hne : ∀ q ∈ (dx, emptyDict) :: news, q.1 ≠ x := fun q hq => by
    rcases List.mem_cons.mp hq with rfl | hq
    · exact Nat.ne_of_lt l2
    · exact Nat.ne_of_lt (Nat.lt_trans (lC _ hq) l2)
  refine set_plain XC I Y.sa (osa_descr KF.slot_mset XC I Y.po Y.tk Y.tp (slot_set (pre := []) (ox' := { cls := .ref C, dict := some dx, data := .plain, slots := #[some v] }) F' N' XC I Y.sl (by omega) (fun _ hq => nomatch hq) hne rfl rfl fun h'' F'' N'' => ?_))
  clear I hne XC N' F'
  try dsimp only [List.nil_append]
  dsimp only [List.nil_append] at N''
  k_steps
  exact hret _ _ _ _ (by k_asm) (by k_asm) lC l2
end Mine.Eng
end
section
example : Mine.Stp True := by first | (walk1; fail) | (w_top off; exact Mine.Stp.to trivial)
open PySem PySem.W PySem.Spec PySem.Calls PyProof.Rows Mine
set_option maxRecDepth 100000
set_option maxHeartbeats 4000000
namespace Mine
/-- the eight names -/
noncomputable def nameL : List Str := [Str.ofString "a.o", Str.ofString "b.o", Str.ofString "a.c", Str.ofString "lib", Str.ofString "x1", Str.ofString "main.c", Str.ofString ".git", Str.ofString "tags"]
noncomputable def endS (x : Str) : Str := if x = Str.ofString "a.o" ∨ x = Str.ofString "b.o" then Str.ofString "o" else if x = Str.ofString "a.c" ∨ x = Str.ofString "main.c" then Str.ofString "c" else if x = Str.ofString ".git" then Str.ofString "git" else Str.ofString ""
local macro_rules | `(tactic| walk_at "compareOp In str str") => `(tactic| (k_here; first | refine in_strB true (by decide +kernel) ?_ | refine in_strB false (by decide +kernel) ?_))
theorem end_of {h₀ : Heap} {L : Addr} {m : Str → Option Value} {news : List (Addr × Obj)} {s : Shared} {Q : Value → Shared → Prop} {e z : Str} {t' : Tok} {h' : Heap} {k : Nat} (he : z = e) (hret : ∀ h' t' tk', Fr h₀ L h' m → News h₀ L h' news → Q (.str e t') { s with heap := h', toks := tk' }) (F : Fr h₀ L h' m) (N : News h₀ L h' news) :
    Q (.str z t') { s with heap := h', toks := k } := by subst he; exact hret _ _ _ F N
theorem law_ending {w : World} {news : List (Addr × Obj)} {n : Str} {t : Tok} (hn : n ∈ nameL)
   {p : Program} {loose : List Str} {mean : ExcName → Option Value} {mg mb : Str → Option Value} {dp un : Nat} {gd : Option (List Code)} {cn : Str} {cs : Scope} {a : Addr} {ccd : Value} {cl : List (Str × Addr)} {outer : List Env} {A₀ : Around} {base h₀ : Heap} {L : Addr} {m : Str → Option Value} {s : Shared} {Q E : Value → Shared → Prop}
    (B : Below A₀ base outer h₀) (F : Fr h₀ L s.heap m) (X : (hd.heap_1 w.params).In h₀) (N : News h₀ L s.heap news)
    (T : Top p loose mean mg mb h₀) (hk : cs.kind = .function) (hdp : dp + 8 < recursionLimit) (hu : un + 64 < cLine)
    (hret : ∀ h' t' tk', Fr h₀ L h' m → News h₀ L h' news → Q (.str (endS n) t') { s with heap := h', toks := tk' }) :
    wpAny (model PR w) (ktrTop dp un gd cn cs L a ccd cl outer) (call (.ref 155) [.str n t]) Q E s := by
  unfold PR
  revert X; k_fill; intro X
  simp only [nameL, List.mem_cons, List.not_mem_nil, or_false] at hn
  rcases hn with rfl | rfl | rfl | rfl | rfl | rfl | rfl | rfl
  all_goals refine wpAny_call ?_
  all_goals k_dflt ktr_enter
  all_goals k_steps
  all_goals exact end_of (s := s) (by decide +kernel) hret (by k_asm) (by k_asm)
end Mine
end
set_option hygiene false
local macro_rules | `(tactic| walk_at "oo") => `(tactic| ((try dsimp only); omega))
set_option hygiene true
section
example : Mine.Stp True := by first | (walk1; fail) | (w_top off; exact Mine.Stp.to trivial)
open PySem PySem.W PySem.Spec PySem.Calls PyProof.Rows Mine
set_option maxRecDepth 100000
set_option maxHeartbeats 4000000
namespace Mine
theorem nd1 {h₀ h : Heap} {L : Addr} {a : Addr × Obj} {news : List (Addr × Obj)} (N : News h₀ L h (a :: news)) : News h₀ L h news := fun q hq => N q (.tail _ hq)
theorem nd2 {h₀ h : Heap} {L : Addr} {a b : Addr × Obj} {news : List (Addr × Obj)} (N : News h₀ L h (a :: b :: news)) : News h₀ L h news := nd1 (nd1 N)
theorem nd3 {h₀ h : Heap} {L : Addr} {a b c : Addr × Obj} {news : List (Addr × Obj)} (N : News h₀ L h (a :: b :: c :: news)) : News h₀ L h news := nd1 (nd2 N)
theorem nd4 {h₀ h : Heap} {L : Addr} {a b c d : Addr × Obj} {news : List (Addr × Obj)} (N : News h₀ L h (a :: b :: c :: d :: news)) : News h₀ L h news := nd1 (nd3 N)
noncomputable def ltS (x y : Str) : Bool := decide (x.cps.toList < y.cps.toList)
noncomputable def cmpS (x y : Str) : Int := 5 * (if ltS (endS y) (endS x) = true then 1 else 0) - 3 * (if ltS (endS x) (endS y) = true then 1 else 0)
local macro_rules | `(tactic| walk_at "call ref") => `(tactic| (k_here; with_reducible refine at_c 155 ?_; k_dflt (refine law_ending (by assumption) (by k_asm) (by k_asm) (by k_asm) (by k_asm) (by k_asm) (by rfl) (by walk_at "oo") (by walk_at "oo") ?_; intro h' t' tk' F' N')))
theorem law_compared {w : World} {news : List (Addr × Obj)} {n1 n2 : Str} {t1 t2 : Tok} (hn1 : n1 ∈ nameL) (hn2 : n2 ∈ nameL)
   {p : Program} {loose : List Str} {mean : ExcName → Option Value} {mg mb : Str → Option Value} {dp un : Nat} {gd : Option (List Code)} {cn : Str} {cs : Scope} {a : Addr} {ccd : Value} {cl : List (Str × Addr)} {outer : List Env} {A₀ : Around} {base h₀ : Heap} {L : Addr} {m : Str → Option Value} {s : Shared} {Q E : Value → Shared → Prop}
    (B : Below A₀ base outer h₀) (F : Fr h₀ L s.heap m) (X : (hd.heap_1 w.params).In h₀) (N : News h₀ L s.heap news)
    (T : Top p loose mean mg mb h₀) (hk : cs.kind = .function) (hdp : dp + 12 < recursionLimit) (hu : un + 80 < cLine)
    (hret : ∀ h' t' tk', Fr h₀ L h' m → News h₀ L h' news → Q (.int (cmpS n1 n2) t') { s with heap := h', toks := tk' }) :
    wpAny (model PR w) (ktrTop dp un gd cn cs L a ccd cl outer) (call (.ref 162) [.str n1 t1, .str n2 t2]) Q E s := by
  unfold PR
  revert X; k_fill; intro X
  refine wpAny_call ?_
  k_dflt ktr_enter
  k_steps
  refine' hret _ _ _ ?zf ?zn
  case zf => k_asm
  case zn => first | k_asm | exact nd1 (by k_asm) | exact nd2 (by k_asm) | exact nd3 (by k_asm) | exact nd4 (by k_asm)
end Mine
end
section
example : Mine.Stp True := by first | (walk1; fail) | (w_top off; exact Mine.Stp.to trivial)
open PySem PySem.W PySem.W.X PySem.Spec PySem.Calls PyProof.Rows Mine
set_option maxRecDepth 100000
set_option maxHeartbeats 15000000
namespace Mine.Eng
noncomputable abbrev insO (C dx : Nat) (v : Value) : Obj := { cls := .ref C, dict := some dx, data := .plain, slots := #[some v] }
theorem get_obj {prog : Program} {w : World} {A : Around} {E : Value → Shared → Prop} {s : Shared} {K : Frag} {C p fI fL x dx : Nat} {v : Value} {expr : Bool} {Q : Value → Shared → Prop} (X : K.In s.heap) (Y : ClsF K C p fI fL) (I : InstAt s.heap x (insO C dx v) C (some emptyDict)) (hh : handedIn v = true)
    (h : Q v { s with toks := s.toks + 1 }) : wpAny (model prog w) A (getAttr (.ref x) (Str.ofString "obj") expr) Q E s :=
  get_bind X I Y.ga (findObj_data Y.ic Y.ob Y.pg Y.pt) Y.gt (wpAny_call (slot_get (s := { s with toks := s.toks + 1 }) X I Y.sl rfl (handed_on hh h)))
theorem nameX_N {M : Model} {A : Around} {E : Value → Shared → Prop} {s : Shared} {h₀ : Heap} {L a : Addr} {cn : Str} {cs : Scope} {ccd : Value} {cl : List (Str × Addr)} {x : Str} {pos : Pos} {v : Value} {Q : Value → Shared → Prop} {c : Addr} {news : List (Addr × Obj)}
    (N : News h₀ L s.heap news) (hc : cl.lookup x = some c) {o : Obj} (hm : (c, o) ∈ news) (hd : o.data = .cell (some v)) (h : Q v s)
    (hk : cs.kind = .function := by rfl) (hx : (envX cn cs L a ccd cl).kindOf x = some .free := by rfl) (hb : (x == ("__debug__" : Str)) = false := by decide) (hn : (x == ("__classdict__" : Str)) = false := by decide) :
    wpAny M A (eval (.Name x pos) (envX cn cs L a ccd cl)) Q E s := wpAny_Name (wpAny_loadName_free hk hx hc ⟨_, (N _ hm).1, hd⟩ h hn) hb
local macro_rules | `(tactic| walk_at "eval Name") => `(tactic| (kc_free; k_dflt (refine nameX_N (by k_asm) (by rfl) (by assumption) (by assumption) ?_ (by rfl) (by rfl))))
local macro_rules | `(tactic| walk_at "getAttr ref") => `(tactic| (k_dflt (refine' get_obj ?X ?Y ?I ?h ?_; (case Y => assumption); (case X => exact ClsN.inH (by assumption) (by k_asm) (fun _ q => q)); (case I => exact InstAt.of_news (by k_asm) (by assumption) (by assumption)); (case h => rfl); k_whole)))
local macro_rules | `(tactic| walk_at "call ref") => `(tactic| (k_here; with_reducible refine at_c 162 ?_; k_dflt (refine law_compared (by assumption) (by assumption) (by k_asm) (by k_asm) (by k_asm) (by k_asm) (by k_asm) (by rfl) (by walk_at "oo") (by walk_at "oo") ?_; intro h' t' tk' F' N')))
theorem cmp_lt : ∀ x ∈ nameL, ∀ y ∈ nameL, decide (cmpS x y < 0) = ltS (endS x) (endS y) := by decide +kernel
theorem k_lt (w : World) (news : List (Addr × Obj)) (cell C ns pp fI fL cI cL : Nat) (oC oN oP oI oL oci ocl occ : Obj) (x dx y dy : Nat) (n1 n2 : Str) (t1 t2 : Tok)
   (p : Program) (loose : List Str) (mean : ExcName → Option Value) (mg mb : Str → Option Value) (dp un : Nat) (gd : Option (List Code)) (cn : Str) (cs : Scope) (a : Addr) (ccd : Value) (cl : List (Str × Addr)) (outer : List Env) (A₀ : Around) (base h₀ : Heap) (L : Addr) (m : Str → Option Value) (s : Shared) (Q E : Value → Shared → Prop)
    (B : Below A₀ base outer h₀) (F : Fr h₀ L s.heap m) (X : (hd.heap_1 w.params).In h₀) (N : News h₀ L s.heap news)
    (T : Top p loose mean mg mb h₀) (hk : cs.kind = .function) (hn1 : n1 ∈ nameL) (hn2 : n2 ∈ nameL) (hdp : dp + 20 < recursionLimit) (hu : un + 100 < cLine)
    (Z : ClsN w.params cell C ns pp fI fL cI cL oC oN oP oI oL oci ocl news)
    (mx : (x, insO C dx (.str n1 t1)) ∈ news) (mdx : (dx, emptyDict) ∈ news) (my : (y, insO C dy (.str n2 t2)) ∈ news) (mdy : (dy, emptyDict) ∈ news) (mc : (cell, occ) ∈ news) (hoc : occ.data = .cell (some (.ref 162)))
    (hret : ∀ h' tk', Fr h₀ L h' m → News h₀ L h' news → Q (.bool (ltS (endS n1) (endS n2))) { s with heap := h', toks := tk' }) :
    wpAny (model PR w) (ktrTop dp un gd cn cs L a ccd cl outer) (call (.ref fL) [.ref x, .ref y]) Q E s := by
  unfold PR
  revert X; k_fill; intro X
  have Y := cls_facts Z.D Z.a
  have hid := Z.D.ld
  conv at hid => rhs; arg 1; arg 3; whnf
  conv at hid => rhs; arg 1; arg 4; arg 1; whnf
  conv at hid => rhs; arg 1; arg 5; whnf
  refine wpAny_call ?_
  refine callX_plain (binds := [(Str.ofString "self", .ref x), (Str.ofString "other", .ref y)]) B F N T.nolimit rfl rfl hk (N _ Z.mL).1 hid ?hc ?hr ?hb ?hl ?_ ?hcell ?h1 ?h2 ?h3
  case hc =>
    obtain ⟨t, e⟩ := Z.D.cl1
    exact ⟨cL, ocl, _, t, rfl, (N _ Z.cl).1, Z.D.cl, e⟩
  case hr => ktr_room
  case hb => exact BindsTo.of_eq rfl
  case h1 => exact rfl
  case h2 => exact rfl
  case h3 => exact rfl
  case hl => exact locs rfl
  case hcell => decide
  intro g' L' h' FG' F' N' B' st l1
  have X' := X.keeps st
  have T' := T.keeps st
  clear st
  try dsimp only
  try k_fold
  clear hid
  k_steps
  rw [cmp_lt n1 hn1 n2 hn2]
  refine' hret _ _ ?zf ?zn
  case zf => k_asm
  case zn => first | k_asm | exact nd1 (by k_asm) | exact nd2 (by k_asm) | exact nd3 (by k_asm) | exact nd4 (by k_asm)
end Mine.Eng
end
section
open PySem PySem.W PySem.W.X PySem.Spec PySem.Calls PyProof.Rows Mine
set_option maxRecDepth 100000
set_option maxHeartbeats 4000000
namespace Mine.Eng
/-- the tables as the first creation leaves them -/
noncomputable def tabL (P : Params) (n t L : Nat) : List (Addr × Obj) := [(33, ob (TA P n t L) 0), (n + 5, ob (TA P n t L) 6), (n + 4, ob (TA P n t L) 5), (n + 13, ob (TA P n t L) 14), (n + 21, ob (TA P n t L) 22)]
noncomputable def clsL (C ns p fI fL : Nat) (oC oN oP oI oL : Obj) : List (Addr × Obj) := [(C, oC), (ns, oN), (p, oP), (fI, oI), (fL, oL)]
theorem get_ob {T : BT} {j : Nat} (h : (T.get j).isSome = true) : T.get j = some (ob T j) := by
  unfold ob
  cases e : T.get j with
  | none => rw [e] at h; cases h
  | some o => rfl
theorem rp_fr {v : V} {g h h2 : Heap} {L : Nat} {m : Str → Option Value} {T : BT} {k : Nat} (hv : v.h₀ = h) (D : Rp v h2 T k) (F : Fr g L h m) (hL : L ∉ v.led) (hg : ∀ b ∈ v.led, g.get? b = none) : Fr g L h2 m := by
  subst hv
  obtain ⟨⟨oL, es, ep, e1, e2, e3, e4⟩, st, ab⟩ := F
  refine ⟨⟨oL, es, ep, D.keep _ _ e1 hL, e2, e3, e4⟩, fun b o e => D.keep _ _ (st b o e) (fun q => ?_), ab⟩
  rw [hg b q] at e
  cases e
theorem rp_new {v : V} {g h h2 : Heap} {L : Nat} {m : Str → Option Value} {T : BT} {k : Nat} (hv : v.h₀ = h) (hn : v.n = h.objs.size) (D : Rp v h2 T k) (F : Fr g L h m) {j : Nat} {o : Obj} (e : T.get j = some o) (hj : v.led.length ≤ j) {a : Nat} (ha : a = v.n + (j - v.led.length)) : h2.get? a = some o ∧ a ≠ L ∧ g.get? a = none := by
  subst hv
  have z := (D.own _ _ e).2
  rw [adr_ge hj, ← ha] at z
  have hlt : L < v.h₀.objs.size := F.ns.lt
  have hnone : g.get? a = none := by
    cases q : g.get? a with
    | none => rfl
    | some o' =>
      have q2 : a < v.h₀.objs.size := Heap.lt_size (F.keep _ _ q)
      rw [hn] at ha
      exact absurd q2 (by show ¬ a < v.h₀.objs.size; omega)
  exact ⟨z, by rw [hn] at ha; show a ≠ L; omega, hnone⟩
theorem rp_old {v : V} {g h h2 : Heap} {L : Nat} {T : BT} {k : Nat} {news : List (Addr × Obj)} (hv : v.h₀ = h) (D : Rp v h2 T k) (N : News g L h news) (hd : ∀ q ∈ news, q.1 ∉ v.led) : News g L h2 news := fun q hq => by
  subst hv
  exact ⟨D.keep _ _ (N q hq).1 (hd q hq), (N q hq).2⟩
/-- the ledger after the first creation -/
theorem news_first {w : World} {g h h2 : Heap} {L t₀ Lc : Nat} {m : Str → Option Value} {news : List (Addr × Obj)} {gn : Array GenState} {d : Drawn} {os : OsState} {R : Result → Shared → Prop} (D : Rp (vv w h h.objs.size t₀ gn d os true AZ R) h2 (fiT (oG w.params h.objs.size t₀ Lc)) 62) (F : Fr g L h m)
    (N : News g L h ((33, tabObj #[]) :: news)) (h33 : ∀ q ∈ news, q.1 ≠ 33) :
    Fr g L h2 m ∧ News g L h2 (clsL (h.objs.size + 58) (h.objs.size + 57) (h.objs.size + 59) (h.objs.size + 14) (h.objs.size + 22) (ob (TA w.params h.objs.size t₀ Lc) 59) (ob (TA w.params h.objs.size t₀ Lc) 58) (ob (TA w.params h.objs.size t₀ Lc) 60) (ob (TA w.params h.objs.size t₀ Lc) 15) (ob (TA w.params h.objs.size t₀ Lc) 23) ++ (tabL w.params h.objs.size t₀ Lc ++ news)) := by
  have n33 := N _ (.head _)
  have hv := have1 w.params h.objs.size t₀ Lc
  simp only [Bool.and_eq_true] at hv
  obtain ⟨⟨⟨⟨⟨⟨⟨⟨⟨q0, q5⟩, q6⟩, q59⟩, q58⟩, q60⟩, q15⟩, q23⟩, q14⟩, q22⟩ := hv
  have old : News g L h2 news := rp_old rfl D (fun q hq => N q (.tail _ hq)) (fun q hq z => h33 q hq (by
    have z2 : q.1 ∈ [33] := z
    simpa using z2))
  refine ⟨rp_fr rfl D F (fun z => n33.2.1 ?_) (fun b hb => ?_), List.forall_mem_cons.mpr ⟨?_, List.forall_mem_cons.mpr ⟨?_, List.forall_mem_cons.mpr ⟨?_, List.forall_mem_cons.mpr ⟨?_, List.forall_mem_cons.mpr ⟨?_, List.forall_mem_cons.mpr ⟨?_, List.forall_mem_cons.mpr ⟨?_, List.forall_mem_cons.mpr ⟨?_, List.forall_mem_cons.mpr ⟨?_, List.forall_mem_cons.mpr ⟨?_, fun q hq => ?_⟩⟩⟩⟩⟩⟩⟩⟩⟩⟩⟩
  · have z2 : L ∈ [33] := z
    simp at z2; exact z2.symm
  · have z2 : b ∈ [33] := hb
    simp at z2; subst z2; exact n33.2.2
  · exact rp_new rfl rfl D F (get_ob q59) (by show 1 ≤ 59; omega) rfl
  · exact rp_new rfl rfl D F (get_ob q58) (by show 1 ≤ 58; omega) rfl
  · exact rp_new rfl rfl D F (get_ob q60) (by show 1 ≤ 60; omega) rfl
  · exact rp_new rfl rfl D F (get_ob q15) (by show 1 ≤ 15; omega) rfl
  · exact rp_new rfl rfl D F (get_ob q23) (by show 1 ≤ 23; omega) rfl
  · exact ⟨(D.own _ _ (get_ob q0)).2, n33.2⟩
  · exact rp_new rfl rfl D F (get_ob q6) (by show 1 ≤ 6; omega) rfl
  · exact rp_new rfl rfl D F (get_ob q5) (by show 1 ≤ 5; omega) rfl
  · exact rp_new rfl rfl D F (get_ob q14) (by show 1 ≤ 14; omega) rfl
  · exact rp_new rfl rfl D F (get_ob q22) (by show 1 ≤ 22; omega) rfl
  · exact old q hq
theorem ne_add {n a b : Nat} (h : a ≠ b) : n + a ≠ n + b := fun q => h (Nat.add_left_cancel q)
theorem apart_of {n a b c d e : Nat} (h : e ≠ a ∧ e ≠ b ∧ e ≠ c ∧ e ≠ d ∧ d ≠ a ∧ d ≠ b ∧ d ≠ c ∧ c ≠ a ∧ c ≠ b ∧ b ≠ a) : Apart (n + a) (n + b) (n + c) (n + d) (n + e) := by
  obtain ⟨h1, h2, h3, h4, h5, h6, h7, h8, h9, h10⟩ := h
  refine ⟨?_, ?_, ?_, ?_, ?_, ?_, ?_, ?_, ?_, ?_⟩ <;> (refine ne_add ?_; first | assumption | (refine Ne.symm ?_; assumption))
theorem cls_mem {C ns p fI fL : Nat} {oC oN oP oI oL : Obj} {l : List (Addr × Obj)} : (C, oC) ∈ clsL C ns p fI fL oC oN oP oI oL ++ l ∧ (ns, oN) ∈ clsL C ns p fI fL oC oN oP oI oL ++ l ∧ (p, oP) ∈ clsL C ns p fI fL oC oN oP oI oL ++ l ∧ (fI, oI) ∈ clsL C ns p fI fL oC oN oP oI oL ++ l ∧ (fL, oL) ∈ clsL C ns p fI fL oC oN oP oI oL ++ l :=
  ⟨.head _, .tail _ (.head _), .tail _ (.tail _ (.head _)), .tail _ (.tail _ (.tail _ (.head _))), .tail _ (.tail _ (.tail _ (.tail _ (.head _))))⟩
theorem tab_mem {P : Params} {n t L : Nat} {l k : List (Addr × Obj)} : (n + 13, ob (TA P n t L) 14) ∈ k ++ (tabL P n t L ++ l) ∧ (n + 21, ob (TA P n t L) 22) ∈ k ++ (tabL P n t L ++ l) :=
  ⟨List.mem_append_right _ (.tail _ (.tail _ (.tail _ (.head _)))), List.mem_append_right _ (.tail _ (.tail _ (.tail _ (.tail _ (.head _)))))⟩
/-- what cmp_to_key gives: the class -/
structure KGot (P : Params) (qn qt qL : Nat) (cell C ns p fI fL cI cL : Nat) (oC oN oP oI oL oci ocl occ : Obj) : Prop where
  D : ClsD P cell C ns p fI fL cI cL oC oN oP oI oL oci ocl
  a : Apart C ns p fI fL
  e1 : cI = qn + 13
  e2 : cL = qn + 21
  e3 : oci = ob (TA P qn qt qL) 14
  e4 : ocl = ob (TA P qn qt qL) 22
  hc : occ.data = .cell (some (.ref 162))
  lo : 174 ≤ qn
theorem KGot.Z {P : Params} {qn qt qL cell C ns p fI fL cI cL : Nat} {oC oN oP oI oL oci ocl occ : Obj} (k : KGot P qn qt qL cell C ns p fI fL cI cL oC oN oP oI oL oci ocl occ) (news : List (Addr × Obj)) : ClsN P cell C ns p fI fL cI cL oC oN oP oI oL oci ocl (clsL C ns p fI fL oC oN oP oI oL ++ (tabL P qn qt qL ++ (cell, occ) :: news)) := by
  obtain ⟨D, a, rfl, rfl, rfl, rfl, hc, lo⟩ := k
  obtain ⟨m1, m2, m3, m4, m5⟩ := cls_mem (C := C) (ns := ns) (p := p) (fI := fI) (fL := fL) (oC := oC) (oN := oN) (oP := oP) (oI := oI) (oL := oL) (l := tabL P qn qt qL ++ (cell, occ) :: news)
  exact ⟨D, a, m1, m2, m3, m4, m5, tab_mem.1, tab_mem.2⟩
end Mine.Eng
end
section
example : Mine.Stp True := by first | (walk1; fail) | (w_top off; exact Mine.Stp.to trivial)
open PySem PySem.W PySem.W.X PySem.Spec PySem.Calls PyProof.Rows Mine
set_option maxRecDepth 100000
set_option maxHeartbeats 4000000
namespace Mine.Eng
theorem big172 {P : Params} {h : Heap} (X : (hd.heap_1 P).In h) : 172 < h.objs.size := by
  have e : ((hd.heap_1 P).lookup 172).isSome = true := by kernel_rfl
  obtain ⟨o, q⟩ := Option.isSome_iff_exists.mp e
  exact Heap.lt_size (X _ _ q)
theorem cmp_first (w : World) (news : List (Addr × Obj))
   (p : Program) (loose : List Str) (mean : ExcName → Option Value) (mg mb : Str → Option Value) (dp un : Nat) (gd : Option (List Code)) (cn : Str) (cs : Scope) (a : Addr) (ccd : Value) (cl : List (Str × Addr)) (outer : List Env) (A₀ : Around) (base h₀ : Heap) (L : Addr) (m : Str → Option Value) (s : Shared) (Q E : Value → Shared → Prop)
    (B : Below A₀ base outer h₀) (F : Fr h₀ L s.heap m) (X : (hd.heap_1 w.params).In h₀) (XE : (KE w.params).In base)
    (N : News h₀ L s.heap ((33, tabObj #[]) :: news)) (h33 : ∀ q ∈ news, q.1 ≠ 33)
    (T : Top p loose mean mg mb h₀) (hk : cs.kind = .function) (hdp : dp + 8 < recursionLimit) (hu : un + 64 < cLine) (hdp2 : dp ≤ 800) (hun2 : un ≤ 150)
    (hret : ∀ qn qt qL cell C ns p fI fL cI cL oC oN oP oI oL oci ocl occ h' tk', KGot w.params qn qt qL cell C ns p fI fL cI cL oC oN oP oI oL oci ocl occ → Fr h₀ L h' m →
      News h₀ L h' (clsL C ns p fI fL oC oN oP oI oL ++ (tabL w.params qn qt qL ++ (cell, occ) :: news)) → Q (.ref C) { s with heap := h', toks := tk' }) :
    wpAny (model PR w) (ktrTop dp un gd cn cs L a ccd cl outer) (call (.ref 38) [.ref 162]) Q E s := by
  unfold PR
  revert X; k_fill; intro X
  refine wpAny_call ?_
  k_dflt (refine' code_defC ?k1 ?k2 ?k3 ?k4 ?k5 ?kA ?kF ?kK ?k6 ?k7 ?k8 ?k9 ?kB ?kD ?_ ?c2 ?c3 ?c4; (case kA => exact rfl); (case kF => exact rfl); (case kK => assumption); (case k1 => k_asm); (case k2 => k_asm); (case k3 => k_asm); (case k4 => k_asm); (case k5 => k_asm); (case k6 => k_is); (case k7 => k_is); (case k8 => ktr_room); (case k9 => exact BindsTo.of_eq rfl); (case kB => exact rfl); (case kD => decide +kernel); (case c2 => exact rfl); (case c3 => exact rfl); (case c4 => exact rfl); k_whole)
  intro g' L' h' tk' cells' FG' F' N' Y' B' X' T' l1
  k_cells Y'
  try simp only [List.cons_append, List.nil_append] at N'
  try dsimp only
  walk1
  rw [arm_exec_ClassDef]
  refine wpAny_bind (wpAny_pure ?_)
  have XH : (KE w.params).In h' := (XE.keeps B'.stays).keeps F'.keep
  have hG : ∀ sc, Looks (model PR w) h' (buildClassGuard (envOfC (Str.ofString "cmp_to_key") sc L' 38 (.ref 37))) () := fun sc => Looks.of_peek XH (by kernel_rfl)
  unfold evalArgs
  repeat ((fail_if_success (with_reducible show wpAny _ _ (buildClass _ _ _ _ _ _ _ _ _ _ _) _ _ _)); first | (with_reducible refine Looks.at (hG _) ?_) | ((with_reducible show wpAny _ _ (eval (Expr.Name _ _) _) _ _ _); walk1) | wp_step | dsimp only)
  have hs : 33 < h'.objs.size := Heap.lt_size (N' _ (.tail _ (.head _))).1
  have b : Bs w h' h'.objs.size := ⟨rfl, XH, hs, T'.nolimit.keeps F'.keep⟩
  refine build_class (L := L') (t₀ := tk') b (N' _ (.tail _ (.head _))).1 rfl ?_ ?_ fun h2 D => ?_
  · show dp + 1 ≤ 900; omega
  · show un + 3 ≤ 200; omega
  rename Obj => occ
  have hoc : occ.data = .cell (some (.ref 162)) := by assumption
  have hbig : 174 ≤ h'.objs.size := by
    have q1 := big172 X'
    have q2 : L' + 1 < h'.objs.size := Heap.lt_size (N' _ (.head _)).1
    have q3 : g'.objs.size ≤ L' := F'.above
    exact Nat.le_of_lt (Nat.lt_of_le_of_lt (Nat.succ_le_succ (Nat.le_trans q1 q3)) q2)
  have N0 : News g' L' h' ((33, tabObj #[]) :: (L' + 1, occ) :: news) := npick N' (.tail _ (.head _)) (npick N' (.head _) fun q hq => N' q (.tail _ (.tail _ hq)))
  have hne : ∀ q ∈ (L' + 1, occ) :: news, q.1 ≠ 33 := fun q hq => by
    rcases List.mem_cons.mp hq with rfl | hq
    · have q1 := big172 X'
      have q3 : g'.objs.size ≤ L' := F'.above
      have q4 : 173 ≤ L' := Nat.le_trans q1 q3
      intro z
      have z2 : Nat.succ L' = 33 := z
      exact absurd (z2 ▸ Nat.succ_le_succ q4 : 174 ≤ 33) (by decide)
    · exact h33 q hq
  obtain ⟨F2, N2⟩ := news_first D F' N0 hne
  have G : KGot w.params h'.objs.size tk' L' (L' + 1) (h'.objs.size + 58) (h'.objs.size + 57) (h'.objs.size + 59) (h'.objs.size + 14) (h'.objs.size + 22) (h'.objs.size + 13) (h'.objs.size + 21) _ _ _ _ _ _ _ occ :=
    ⟨shape1 _ _ _ _, apart_of (by decide), rfl, rfl, rfl, rfl, hoc, hbig⟩
  clear N' N0 F' D XH hG hne
  generalize ob (TA w.params h'.objs.size tk' L') 59 = oC at *
  generalize ob (TA w.params h'.objs.size tk' L') 58 = oN at *
  generalize ob (TA w.params h'.objs.size tk' L') 60 = oP at *
  generalize ob (TA w.params h'.objs.size tk' L') 15 = oI at *
  generalize ob (TA w.params h'.objs.size tk' L') 23 = oL at *
  generalize hnews : (clsL _ _ _ _ _ _ _ _ _ _ ++ _ : List (Addr × Obj)) = nw at N2
  repeat ((fail_if_success (with_reducible show wpAny _ _ (bindName _ _ _) _ _ _)); wp_step)
  k_steps
  refine wpAny_pure ?_
  try dsimp only
  k_steps
  subst hnews
  refine' hret _ _ _ _ _ _ _ _ _ _ _ _ _ _ _ _ _ _ _ _ _ G ?zf ?zn
  case zf => k_asm
  case zn => k_asm
end Mine.Eng
end
section
example : Mine.Stp True := by first | (walk1; fail) | (w_top off; exact Mine.Stp.to trivial)
open PySem PySem.W PySem.W.X PySem.Spec PySem.Calls PyProof.Rows Mine
set_option maxRecDepth 100000
set_option maxHeartbeats 4000000
namespace Mine.Eng
theorem news_later {w : World} {g h h2 : Heap} {L t₀ Lc qn qt qL : Nat} {m : Str → Option Value} {news : List (Addr × Obj)} {gn : Array GenState} {d : Drawn} {os : OsState} {R : Result → Shared → Prop} (b : L2.B2 w h ⟨qn, qt, qL⟩ h.objs.size)
    (D : Rp (L2.vv w h ⟨qn, qt, qL⟩ h.objs.size t₀ gn d os true AZ R) h2 (fiT (L2.oG w.params ⟨qn, qt, qL⟩ h.objs.size t₀ Lc)) 23) (F : Fr g L h m) (N : News g L h news) :
    Fr g L h2 m ∧ News g L h2 (clsL (h.objs.size + 19) (h.objs.size + 18) (h.objs.size + 20) (h.objs.size + 5) (h.objs.size + 7) (ob (TB w.params ⟨qn, qt, qL⟩ h.objs.size t₀ Lc) 22) (ob (TB w.params ⟨qn, qt, qL⟩ h.objs.size t₀ Lc) 21) (ob (TB w.params ⟨qn, qt, qL⟩ h.objs.size t₀ Lc) 23) (ob (TB w.params ⟨qn, qt, qL⟩ h.objs.size t₀ Lc) 8) (ob (TB w.params ⟨qn, qt, qL⟩ h.objs.size t₀ Lc) 10) ++ news) := by
  obtain ⟨s0, s1, s2⟩ := same2 w.params ⟨qn, qt, qL⟩ h.objs.size t₀ Lc
  have st : ∀ a o, h.get? a = some o → h2.get? a = some o := fun a o e => by
    by_cases ha : a ∈ L2.led ⟨qn, qt, qL⟩
    · rcases L2.mem_led ha with rfl | rfl | rfl
      · have e2 := b.g33
        rw [e] at e2
        rw [e2]
        exact (D.own _ _ s0).2
      · have e2 := b.gC
        rw [e] at e2
        rw [e2]
        exact (D.own _ _ s1).2
      · have e2 := b.gT
        rw [e] at e2
        rw [e2]
        exact (D.own _ _ s2).2
    · exact D.keep _ _ e ha
  have hv := have2 w.params ⟨qn, qt, qL⟩ h.objs.size t₀ Lc
  simp only [Bool.and_eq_true] at hv
  obtain ⟨⟨⟨⟨q22, q21⟩, q23⟩, q8⟩, q10⟩ := hv
  have F0 := F
  obtain ⟨⟨oL, es, ep, e1, e2, e3, e4⟩, stt, ab⟩ := F
  refine ⟨⟨⟨oL, es, ep, st _ _ e1, e2, e3, e4⟩, fun b o e => st _ _ (stt b o e), ab⟩, List.forall_mem_cons.mpr ⟨?_, List.forall_mem_cons.mpr ⟨?_, List.forall_mem_cons.mpr ⟨?_, List.forall_mem_cons.mpr ⟨?_, List.forall_mem_cons.mpr ⟨?_, fun q hq => ?_⟩⟩⟩⟩⟩⟩
  · exact rp_new rfl rfl D F0 (get_ob q22) (by show 3 ≤ 22; omega) rfl
  · exact rp_new rfl rfl D F0 (get_ob q21) (by show 3 ≤ 21; omega) rfl
  · exact rp_new rfl rfl D F0 (get_ob q23) (by show 3 ≤ 23; omega) rfl
  · exact rp_new rfl rfl D F0 (get_ob q8) (by show 3 ≤ 8; omega) rfl
  · exact rp_new rfl rfl D F0 (get_ob q10) (by show 3 ≤ 10; omega) rfl
  · exact ⟨st _ _ (N q hq).1, (N q hq).2⟩
theorem cmp_later (w : World) (news : List (Addr × Obj))
   (p : Program) (loose : List Str) (mean : ExcName → Option Value) (mg mb : Str → Option Value) (dp un : Nat) (gd : Option (List Code)) (cn : Str) (cs : Scope) (a : Addr) (ccd : Value) (cl : List (Str × Addr)) (outer : List Env) (A₀ : Around) (base h₀ : Heap) (L : Addr) (m : Str → Option Value) (s : Shared) (Q E : Value → Shared → Prop)
    (B : Below A₀ base outer h₀) (F : Fr h₀ L s.heap m) (X : (hd.heap_1 w.params).In h₀) (XE : (KE w.params).In base)
    (qn qt qL : Nat) (hlo : 174 ≤ qn) (N : News h₀ L s.heap (tabL w.params qn qt qL ++ news))
    (T : Top p loose mean mg mb h₀) (hk : cs.kind = .function) (hdp : dp + 8 < recursionLimit) (hu : un + 64 < cLine) (hdp2 : dp ≤ 800) (hun2 : un ≤ 150)
    (hret : ∀ cell C ns p fI fL cI cL oC oN oP oI oL oci ocl occ h' tk', KGot w.params qn qt qL cell C ns p fI fL cI cL oC oN oP oI oL oci ocl occ → Fr h₀ L h' m →
      News h₀ L h' (clsL C ns p fI fL oC oN oP oI oL ++ (tabL w.params qn qt qL ++ (cell, occ) :: news)) → Q (.ref C) { s with heap := h', toks := tk' }) :
    wpAny (model PR w) (ktrTop dp un gd cn cs L a ccd cl outer) (call (.ref 38) [.ref 162]) Q E s := by
  unfold PR
  revert X; k_fill; intro X
  refine wpAny_call ?_
  k_dflt (refine' code_defC ?k1 ?k2 ?k3 ?k4 ?k5 ?kA ?kF ?kK ?k6 ?k7 ?k8 ?k9 ?kB ?kD ?_ ?c2 ?c3 ?c4; (case kA => exact rfl); (case kF => exact rfl); (case kK => assumption); (case k1 => k_asm); (case k2 => k_asm); (case k3 => k_asm); (case k4 => k_asm); (case k5 => k_asm); (case k6 => k_is); (case k7 => k_is); (case k8 => ktr_room); (case k9 => exact BindsTo.of_eq rfl); (case kB => exact rfl); (case kD => decide +kernel); (case c2 => exact rfl); (case c3 => exact rfl); (case c4 => exact rfl); k_whole)
  intro g' L' h' tk' cells' FG' F' N' Y' B' X' T' l1
  k_cells Y'
  try simp only [List.cons_append, List.nil_append] at N'
  try dsimp only
  walk1
  rw [arm_exec_ClassDef]
  refine wpAny_bind (wpAny_pure ?_)
  have XH : (KE w.params).In h' := (XE.keeps B'.stays).keeps F'.keep
  have hG : ∀ sc, Looks (model PR w) h' (buildClassGuard (envOfC (Str.ofString "cmp_to_key") sc L' 38 (.ref 37))) () := fun sc => Looks.of_peek XH (by kernel_rfl)
  unfold evalArgs
  repeat ((fail_if_success (with_reducible show wpAny _ _ (buildClass _ _ _ _ _ _ _ _ _ _ _) _ _ _)); first | (with_reducible refine Looks.at (hG _) ?_) | ((with_reducible show wpAny _ _ (eval (Expr.Name _ _) _) _ _ _); walk1) | wp_step | dsimp only)
  rename Obj => occ
  have hoc : occ.data = .cell (some (.ref 162)) := by assumption
  have N0 : News g' L' h' (tabL w.params qn qt qL ++ (L' + 1, occ) :: news) := by
    have N1 : News g' L' h' ((L' + 1, occ) :: _ :: _ :: _ :: _ :: _ :: news) := N'
    exact npick N1 (by k_mem) (npick N1 (by k_mem) (npick N1 (by k_mem) (npick N1 (by k_mem) (npick N1 (by k_mem) (npick N1 (.head _) fun q hq => N1 q (by repeat (first | exact hq | apply List.Mem.tail)))))))
  have hs : 33 < h'.objs.size := Heap.lt_size (N0 _ (.head _)).1
  have b : Bs w h' h'.objs.size := ⟨rfl, XH, hs, T'.nolimit.keeps F'.keep⟩
  have b2 : L2.B2 w h' ⟨qn, qt, qL⟩ h'.objs.size := ⟨b, hlo, Heap.lt_size (N0 _ (.tail _ (.head _))).1, (N0 _ (.head _)).1, (N0 _ (.tail _ (.head _))).1, (N0 _ (.tail _ (.tail _ (.head _)))).1⟩
  refine L2.build_class (L := L') (t₀ := tk') b2 rfl ?_ ?_ fun h2 D => ?_
  · show dp + 1 ≤ 900; omega
  · show un + 3 ≤ 200; omega
  obtain ⟨F2, N2⟩ := news_later b2 D F' N0
  have G : KGot w.params qn qt qL (L' + 1) (h'.objs.size + 19) (h'.objs.size + 18) (h'.objs.size + 20) (h'.objs.size + 5) (h'.objs.size + 7) (qn + 13) (qn + 21) _ _ _ _ _ _ _ occ :=
    ⟨shape2 w.params ⟨qn, qt, qL⟩ h'.objs.size tk' L', apart_of (by decide), rfl, rfl, rfl, rfl, hoc, hlo⟩
  clear N' N0 F' D XH hG b2
  generalize ob (TB w.params ⟨qn, qt, qL⟩ h'.objs.size tk' L') 22 = oC at *
  generalize ob (TB w.params ⟨qn, qt, qL⟩ h'.objs.size tk' L') 21 = oN at *
  generalize ob (TB w.params ⟨qn, qt, qL⟩ h'.objs.size tk' L') 23 = oP at *
  generalize ob (TB w.params ⟨qn, qt, qL⟩ h'.objs.size tk' L') 8 = oI at *
  generalize ob (TB w.params ⟨qn, qt, qL⟩ h'.objs.size tk' L') 10 = oL at *
  generalize hnews : (clsL _ _ _ _ _ _ _ _ _ _ ++ _ : List (Addr × Obj)) = nw at N2
  repeat ((fail_if_success (with_reducible show wpAny _ _ (bindName _ _ _) _ _ _)); wp_step)
  k_steps
  refine wpAny_pure ?_
  try dsimp only
  k_steps
  subst hnews
  refine' hret _ _ _ _ _ _ _ _ _ _ _ _ _ _ _ _ _ _ G ?zf ?zn
  case zf => k_asm
  case zn => k_asm
end Mine.Eng
end
section
open PySem PySem.W PySem.W.X PySem.Spec PySem.Calls PyProof.Rows Mine
set_option maxRecDepth 100000
set_option maxHeartbeats 4000000
namespace Mine.Eng
/-- the decision tree run with a plain comparison -/
noncomputable def runT {α : Type} (lt : Nat → Nat → Bool) (n : Nat) : KasT α → Option α
  | .ret a => some a
  | .ask i j k => if i < n ∧ j < n then runT lt n (k (lt i j)) else none
theorem kas_pure {α : Type} {cmp : Nat → Nat → (Bool → Shared → Prop) → Shared → Prop} {lt : Nat → Nat → Bool} {n : Nat} {Inv : Shared → Prop} {Q : α → Shared → Prop}
    (ask : ∀ i j, i < n → j < n → ∀ (C : Bool → Shared → Prop) s, Inv s → (∀ s', Inv s' → C (lt i j) s') → cmp i j C s) : ∀ (t : KasT α) {a : α} {s : Shared}, runT lt n t = some a → Inv s → (∀ s', Inv s' → Q a s') → t.kasWp cmp Q s
  | .ret _, a, s, e, hi, hq => by cases e; exact hq s hi
  | .ask i j k, a, s, e, hi, hq => by
    unfold runT at e
    split at e
    · rename_i h
      exact ask i j h.1 h.2 _ s hi fun s' hi' => kas_pure ask (k (lt i j)) e hi' hq
    · cases e
inductive Inst (C : Nat) : List Value → List Str → List (Addr × Obj) → Prop
  | nil : Inst C [] [] []
  | snoc {ks xs l} {x dx : Nat} {n : Str} {t : Tok} : Inst C ks xs l → Inst C (ks ++ [.ref x]) (xs ++ [n]) ((x, insO C dx (.str n t)) :: (dx, emptyDict) :: l)
theorem Inst.len {C : Nat} {ks : List Value} {xs : List Str} {l : List (Addr × Obj)} (h : Inst C ks xs l) : ks.length = xs.length := by
  induction h with
  | nil => rfl
  | snoc _ ih => simp [ih]
theorem Inst.at {C : Nat} {ks : List Value} {xs : List Str} {l : List (Addr × Obj)} (h : Inst C ks xs l) : ∀ {i : Nat}, i < ks.length → ∃ (x dx : Nat) (t : Tok) (n : Str), ks.getD i Value.none = .ref x ∧ xs[i]? = some n ∧ (x, insO C dx (.str n t)) ∈ l ∧ (dx, emptyDict) ∈ l := by
  induction h with
  | nil => intro i hi; simp at hi
  | @snoc ks xs l x dx n t h0 ih =>
    intro i hi
    have hl := h0.len
    by_cases hlt : i < ks.length
    · obtain ⟨x', dx', t', n', a, b, c, d⟩ := ih hlt
      refine ⟨x', dx', t', n', ?_, ?_, .tail _ (.tail _ c), .tail _ (.tail _ d)⟩
      · rw [List.getD_eq_getElem?_getD, List.getElem?_append_left hlt, ← List.getD_eq_getElem?_getD, a]
      · rw [List.getElem?_append_left (by omega)]; exact b
    · have hie : i = ks.length := by simp at hi; omega
      subst hie
      refine ⟨x, dx, t, n, ?_, ?_, .head _, .tail _ (.head _)⟩
      · rw [List.getD_eq_getElem?_getD, List.getElem?_append_right (Nat.le_refl _)]; simp
      · rw [hl, List.getElem?_append_right (Nat.le_refl _)]; simp
theorem updF_app {d : Addr} {o : Obj} : ∀ {pre post : List (Addr × Obj)}, (∀ q ∈ pre, q.1 ≠ d) → (∀ q ∈ post, q.1 ≠ d) → UpdF d o (pre ++ (d, o) :: post) (fun o' => pre ++ (d, o') :: post)
  | [], _, _, h => .head h
  | p :: pre, _, h1, h2 => .tail (h1 p (.head _)) (updF_app (fun q hq => h1 q (.tail _ hq)) h2)
theorem ClsN.mono {P : Params} {cell C ns p fI fL cI cL : Nat} {oC oN oP oI oL oci ocl : Obj} {news news' : List (Addr × Obj)} (z : ClsN P cell C ns p fI fL cI cL oC oN oP oI oL oci ocl news) (hs : ∀ q ∈ news, q ∈ news') : ClsN P cell C ns p fI fL cI cL oC oN oP oI oL oci ocl news' :=
  ⟨z.D, z.a, hs _ z.mC, hs _ z.mN, hs _ z.mP, hs _ z.mI, hs _ z.mL, hs _ z.ci, hs _ z.cl⟩
theorem keys_K (w : World) (news : List (Addr × Obj)) (cell C ns pp fI fL cI cL : Nat) (oC oN oP oI oL oci ocl : Obj) (kS : Nat)
   (p : Program) (loose : List Str) (mean : ExcName → Option Value) (mg mb : Str → Option Value) (dp un : Nat) (gd : Option (List Code)) (cn : Str) (cs : Scope) (a : Addr) (ccd : Value) (cl : List (Str × Addr)) (outer : List Env) (A₀ : Around) (base h₀ : Heap) (L : Addr) (m : Str → Option Value)
    (B : Below A₀ base outer h₀) (X : (hd.heap_1 w.params).In h₀)
    (T : Top p loose mean mg mb h₀) (hk : cs.kind = .function) (hdp : dp + 8 < recursionLimit) (hu : un + 64 < cLine)
    (Z : ClsN w.params cell C ns pp fI fL cI cL oC oN oP oI oL oci ocl news) (hlt : ∀ q ∈ news, q.1 < kS) (Fin : List Value → Nat → Shared → Prop) :
    ∀ (vs : List Value) (xs : List Str), StrsAre vs xs → ∀ (ks : List Value) (kxs : List Str) (il : List (Addr × Obj)) (e : Nat) (s : Shared),
      Fr h₀ L s.heap m → News h₀ L s.heap (il ++ (kS, seqObj "list" (List.toArray ks) e) :: news) → Inst C ks kxs il → (∀ q ∈ il, kS < q.1) →
      (∀ ks' il' e' h' tk', Fr h₀ L h' m → News h₀ L h' (il' ++ (kS, seqObj "list" (List.toArray ks') e') :: news) → Inst C ks' (kxs ++ xs) il' → (∀ q ∈ il', kS < q.1) → Fin ks' e' { s with heap := h', toks := tk' }) →
      KatKeys PR w (ktrTop dp un gd cn cs L a ccd cl outer) h₀ L m kS (.ref C) Fin vs ks e s := by
  intro vs xs hv
  induction hv with
  | nil =>
    intro ks kxs il e s F N I hl fin
    refine .nil ?_
    have := fin ks il e s.heap s.toks F N (by rw [List.append_nil]; exact I) hl
    exact this
  | @cons x tt vs xs _ ih =>
    intro ks kxs il e s F N I hl fin
    refine .cons ?_
    refine k_make w _ cell C ns pp fI fL cI cL oC oN oP oI oL oci ocl _ p loose mean mg mb dp un gd cn cs a ccd cl outer A₀ base h₀ L m s _ _ B F X N T hk hdp hu (Z.mono fun q hq => List.mem_append_right _ (.tail _ hq)) fun y dy h' tk' F' N' l1 l2 => ?_
    have hk1 : kS < dy := l1 (kS, seqObj "list" (List.toArray ks) e) (List.mem_append_right _ (.head _))
    have hl' : ∀ q ∈ (y, insO C dy (.str x tt)) :: (dy, emptyDict) :: il, kS < q.1 := fun q hq => by
      rcases List.mem_cons.mp hq with rfl | hq
      · exact Nat.lt_trans hk1 l2
      · rcases List.mem_cons.mp hq with rfl | hq
        · exact hk1
        · exact hl q hq
    refine KatBack.intro (g := fun o' => ((y, insO C dy (.str x tt)) :: (dy, emptyDict) :: il) ++ (kS, o') :: news) F' N' (updF_app (pre := (y, insO C dy (.str x tt)) :: (dy, emptyDict) :: il) (fun q hq => Nat.ne_of_gt (hl' q hq)) fun q hq => Nat.ne_of_lt (hlt q hq)) fun h'' c F'' N'' => ?_
    refine ih (ks ++ [.ref y]) (kxs ++ [x]) _ c { s with heap := h'', toks := tk' } F'' N'' (.snoc I) hl' fun ks' il' e' h3 tk3 F3 N3 I3 hl3 => ?_
    exact fin ks' il' e' h3 tk3 F3 N3 (by rw [List.append_assoc] at I3; exact I3) hl3
end Mine.Eng
end
section
open PySem PySem.W PySem.W.X PySem.Spec PySem.Calls PyProof.Rows Mine
set_option maxRecDepth 100000
set_option maxHeartbeats 4000000
namespace Mine.Eng
theorem lt_inst {prog : Program} {w : World} {A : Around} {E : Value → Shared → Prop} {s : Shared} {K : Frag} {x C f : Addr} {ox : Obj} {od : Option Obj} {b : Value} {Q : Bool → Shared → Prop} (hu : A.units < cLine) (X : K.In s.heap) (I : InstAt s.heap x ox C od) (hs : findIn K (.ref C) "__lt__" = some (some (.ref f))) (hf : isFn K (.ref f) = true)
    (h : wpAny (model prog w) A (call (.ref f) [.ref x, b]) (W.BoolBack Q) E s) : wpAny (model prog w) A (keyLt' oneType' (.ref x) b) Q E s := by
  rw [keyLt'_oneType, oneLt'_eq]
  simp only [if_true]
  refine wpAny_bind (wpAny_cRoomFor hu ?_)
  refine wpAny_bind (ifBound_K X I hs hf (wpAny_mono h (fun v s' hv => ?_) fun _ _ e => e))
  cases v <;> first | exact hv.elim | skip
  exact wpAny_truthy_bool hv
theorem Inst.typ {C : Nat} {ks : List Value} {xs : List Str} {l : List (Addr × Obj)} (h : Inst C ks xs l) : ∀ v ∈ ks, ∃ (x dx : Nat) (t : Tok) (n : Str), v = .ref x ∧ (x, insO C dx (.str n t)) ∈ l := by
  induction h with
  | nil => intro v hv; cases hv
  | @snoc ks xs l x dx n t _ ih =>
    intro v hv
    rcases List.mem_append.mp hv with hv | hv
    · obtain ⟨x', dx', t', n', a, b⟩ := ih v hv
      exact ⟨x', dx', t', n', a, .tail _ (.tail _ b)⟩
    · simp only [List.mem_cons, List.not_mem_nil, or_false] at hv
      exact ⟨x, dx, t, n, hv, .head _⟩
theorem strsAre_len {vs : List Value} {xs : List Str} (h : StrsAre vs xs) : vs.length = xs.length := by
  induction h with
  | nil => rfl
  | cons _ _ _ ih => simp [ih]
/-- the comparison that K makes, by the names' places -/
noncomputable def ltE (xs : List Str) (i j : Nat) : Bool := ltS (endS (xs.getD i (Str.ofString ""))) (endS (xs.getD j (Str.ofString "")))
theorem sorted_K (w : World) (news : List (Addr × Obj)) (cell C ns pp fI fL cI cL : Nat) (oC oN oP oI oL oci ocl occ : Obj) (l n : Nat) (vs : List Value) (xs : List Str) (hv : StrsAre vs xs) (hx : ∀ x ∈ xs, x ∈ nameL) (h2 : 2 ≤ xs.length) (h8 : xs.length ≤ 8) (perm : Array Nat)
   (hperm : runT (ltE xs) xs.length (kas_sort xs.length) = some perm)
   (p : Program) (loose : List Str) (mean : ExcName → Option Value) (mg mb : Str → Option Value) (dp un : Nat) (gd : Option (List Code)) (cn : Str) (cs : Scope) (a : Addr) (ccd : Value) (cl : List (Str × Addr)) (outer : List Env) (A₀ : Around) (base h₀ : Heap) (L : Addr) (m : Str → Option Value) (s : Shared) (Q E : Value → Shared → Prop)
    (B : Below A₀ base outer h₀) (F : Fr h₀ L s.heap m) (X : (hd.heap_1 w.params).In h₀) (N : News h₀ L s.heap news)
    (T : Top p loose mean mg mb h₀) (hk : cs.kind = .function) (hdp : dp + 40 < recursionLimit) (hu : un + 200 < cLine)
    (Z : ClsN w.params cell C ns pp fI fL cI cL oC oN oP oI oL oci ocl news) (mc : (cell, occ) ∈ news) (hoc : occ.data = .cell (some (.ref 162))) (ml : (l, listOf vs.toArray n) ∈ news)
    (hret : ∀ (D : Nat) c h' tk', Fr h₀ L h' m → News h₀ L h' ((D, listOf (List.toArray (perm.toList.map fun i => vs.getD i Value.none)) c) :: news) → (∀ q ∈ news, q.1 < D) → Q (.ref D) { s with heap := h', toks := tk' }) :
    wpAny (model PR w) (ktrTop dp un gd cn cs L a ccd cl outer) (call (.builtin "sorted") [.ref l] [(Str.ofString "key", .ref C)]) Q E s := by
  have hlen := strsAre_len hv
  have Y := cls_facts Z.D Z.a
  refine kat_sortedK (vs := vs) (b := false) F N ⟨_, (N _ ml).1, rfl, _, rfl⟩ (by omega) (by omega) (ksk_s1 _ _) (fun x => ksk_l1 _ _) (fun x => ksk_t1 _ _) fun D kS e1 h' F' N' l1 l2 => ?_
  have Z' : ClsN w.params cell C ns pp fI fL cI cL oC oN oP oI oL oci ocl ((D, seqObj "list" #[] e1) :: news) := Z.mono fun q hq => .tail _ hq
  have hlt : ∀ q ∈ (D, seqObj "list" #[] e1) :: news, q.1 < kS := fun q hq => by
    rcases List.mem_cons.mp hq with rfl | hq
    · exact l1
    · exact Nat.lt_trans (l2 q hq) l1
  refine keys_K w ((D, seqObj "list" #[] e1) :: news) cell C ns pp fI fL cI cL oC oN oP oI oL oci ocl kS p loose mean mg mb dp (un + 1 + 1) gd cn cs a ccd cl outer A₀ base h₀ L m B X T hk (by omega) (by omega) Z' hlt _ vs xs hv [] [] [] 0 _ F' N' .nil (fun q hq => nomatch hq) fun ks il e h3 tk3 F3 N3 I hl => ?_
  rw [List.nil_append] at I
  have hkl := I.len
  refine kas_kind (T := .ref C) (by omega) (fun v hv' => ?_) rfl (beq_self_eq_true _) ?_
  · obtain ⟨x, dx, t, nn, rfl, mx⟩ := I.typ v hv'
    exact (Looks.ld (N3 _ (List.mem_append_left _ mx)).1).andThen .now
  have eks : katRev false ks = ks := rfl
  rw [eks, hlen]
  refine kas_pure (lt := ltE xs) (n := xs.length) (Inv := fun s' => ∃ h4 tk4, s' = { s with heap := h4, toks := tk4 } ∧ Fr h₀ L h4 m ∧ News h₀ L h4 (il ++ (kS, seqObj "list" (List.toArray ks) e) :: (D, seqObj "list" #[] e1) :: news)) (fun i j hi hj Cc s4 hs hC => ?_) (kas_sort xs.length) hperm ⟨h3, tk3, rfl, F3, N3⟩ fun s4 hs => ?_
  · obtain ⟨h4, tk4, rfl, F4, N4⟩ := hs
    obtain ⟨x, dx, t, nx, ex, enx, mx, mdx⟩ := I.at (i := i) (by omega)
    obtain ⟨y, dy, u, ny, ey, eny, my, mdy⟩ := I.at (i := j) (by omega)
    unfold kas_ask
    rw [ex, ey]
    have up : ∀ q ∈ news, q ∈ il ++ (kS, seqObj "list" (List.toArray ks) e) :: (D, seqObj "list" #[] e1) :: news := fun q hq => List.mem_append_right _ (.tail _ (.tail _ hq))
    have Z4 := Z.mono up
    have hlx : ltE xs i j = ltS (endS nx) (endS ny) := by
      unfold ltE
      rw [List.getD_eq_getElem?_getD, List.getD_eq_getElem?_getD, enx, eny]
      rfl
    refine lt_inst (K := KC C ns pp fI fL oC oN oP oI oL) (by show un + 1 + 1 < cLine; omega) (Z4.inH N4 fun _ q => q) (InstAt.of_news N4 (List.mem_append_left _ mx) (List.mem_append_left _ mdx)) Y.lt (beq_iff_eq.mpr Y.tl) ?_
    refine k_lt w _ cell C ns pp fI fL cI cL oC oN oP oI oL oci ocl occ x dx y dy nx ny t u p loose mean mg mb dp (un + 1 + 1) gd cn cs a ccd cl outer A₀ base h₀ L m _ _ _ B F4 X N4 T hk (hx _ (List.mem_of_getElem? enx)) (hx _ (List.mem_of_getElem? eny)) (by omega) (by omega) Z4 (List.mem_append_left _ mx) (List.mem_append_left _ mdx) (List.mem_append_left _ my) (List.mem_append_left _ mdy) (up _ mc) hoc fun h5 tk5 F5 N5 => ?_
    show Cc (ltS (endS nx) (endS ny)) _
    rw [← hlx]
    exact hC _ ⟨h5, tk5, rfl, F5, N5⟩
  · obtain ⟨h4, tk4, rfl, F4, N4⟩ := hs
    have hil : ∀ q ∈ il, q.1 ≠ kS := fun q hq => Nat.ne_of_gt (hl q hq)
    refine KatFin.intro F4 N4 (updF_app hil fun q hq => Nat.ne_of_lt (hlt q hq)) fun h5 c F5 N5 => ?_
    have N6 : News h₀ L h5 ((il ++ [(kS, seqObj "list" #[] c)]) ++ (D, seqObj "list" #[] e1) :: news) := by
      rw [List.append_assoc]; exact N5
    refine KasFin.intro F5 N6 (updF_app (fun q hq => ?_) fun q hq => Nat.ne_of_lt (l2 q hq)) fun h6 c6 F6 N7 => ?_
    · rcases List.mem_append.mp hq with hq | hq
      · exact Nat.ne_of_gt (Nat.lt_trans l1 (hl q hq))
      · simp only [List.mem_cons, List.not_mem_nil, or_false] at hq
        subst hq
        exact Nat.ne_of_gt l1
    · exact hret D c6 h6 tk4 F6 (fun q hq => N7 q (List.mem_append_right _ hq)) l2
end Mine.Eng
end
section
open PySem PySem.W PySem.W.X PySem.Spec PySem.Calls PyProof.Rows Mine
set_option maxRecDepth 100000
set_option maxHeartbeats 4000000
namespace Mine.Eng
section
variable {prog : Program} {w : World} {A : Around} {E : Value → Shared → Prop} {s : Shared} {h₀ : Heap} {L : Addr} {m : Str → Option Value} {news : List (Addr × Obj)} {ks vs : List Value} {kS a : Addr}
theorem small_zip : ∀ (ks vs : List Value), ks.length = vs.length → vs.length < 2 → (((List.toArray ks).zip vs.toArray).map (·.2)) = List.toArray vs
  | [], [], _, _ => by simp
  | [_], [_], _, _ => by simp
  | [], _ :: _, h, _ => by simp at h
  | _ :: _, [], h, _ => by simp at h
  | [_], _ :: _ :: _, h, _ => by simp at h
  | _ :: _ :: _, _, h, h2 => by simp at h; omega
theorem small_end {e e1 : Nat} {P : PySem.Fin → Shared → Prop} (hl : ks.length = vs.length) (h2 : vs.length < 2)
    (h : KatFin h₀ L m kS a ks e e1 vs (fun s' => P (.done (.ret .none)) s') s) : wpAny (model prog w) A (ksk_end a false vs.toArray e1 (.ref kS) (List.toArray ks)) P E s := by
  have hsz : vs.toArray.size < 2 := by rw [List.size_toArray]; exact h2
  unfold ksk_end
  dsimp only
  rw [if_pos hsz, if_pos hsz]
  refine wpAny_bind (wpAny_pure ?_)
  refine wpAny_bind (wpAny_pure ?_)
  have key : KatFin h₀ L m kS a ks e e1 (katRev false vs) (fun s' => P (.done (.ret .none)) s') s := h
  exact kat_tail (b := false) (out := vs) (small_zip ks vs hl h2) (by omega) (by omega) rfl key
theorem small_rest {e1 : Nat} {f : Value} {P : PySem.Fin → Shared → Prop} (hk : s.heap.get? kS = some (seqObj "list" #[] 0)) (h2 : vs.length < 2)
    (h : KatKeys prog w A h₀ L m kS f (fun ks e s' => KatFin h₀ L m kS a ks e e1 vs (fun s4 => P (.done (.ret .none)) s4) s') vs [] 0 s) :
    wpAny (model prog w) A (ksk_rest a f false vs.toArray e1 (.ref kS)) P E s := by
  unfold ksk_rest
  refine wpAny_bind (wpAny_rule ?_)
  match vs, h2, h with
  | [], _, h =>
    rw [List.forIn_toArray]
    rw [List.forIn_nil]
    refine wpAny_bind (wpAny_pure ?_)
    refine wpAny_bind (listItems_at hk rfl ?_)
    exact small_end (ks := []) rfl (by decide) h
  | [v], _, h =>
    rw [List.forIn_toArray]
    rw [List.forIn_cons]
    refine wpAny_bind (wpAny_bind (wpAny_bind (wpAny_attempt (wpAny_mono h (fun k s2 q => ?_) fun _ _ z => z.elim))))
    obtain ⟨nw, g, F', N', U, c⟩ := q
    obtain ⟨pre, post, rfl, hg, x1, x2⟩ := U.split
    have nk := N' (kS, seqObj "list" (List.toArray []) 0) (List.mem_append_right _ (.head _))
    have sb := Heap.SameBut.update s2.heap kS (Obj.mapSeq (·.push k))
    have hc : (s2.heap.update kS (Obj.mapSeq (·.push k))).get? kS = some (seqObj "list" (List.toArray [k]) _) := get?_update_seq nk.1 (·.push k)
    refine wpAny_bind (listUpdate_at nk.1 rfl ?_ (by simp) (by rw [sizeLine_eq]; simp))
    refine wpAny_pure ?_
    dsimp only
    rw [List.forIn_nil]
    refine wpAny_pure ?_
    refine wpAny_bind (listItems_at hc rfl ?_)
    exact small_end (ks := [k]) rfl (by decide : (1 : Nat) < 2) (c _ _ (kas_fr F' sb nk.2.1 nk.2.2) (by rw [hg]; exact news_set N' x1 x2 sb hc))
  | _ :: _ :: _, h2, _ => exact absurd h2 (by simp)
theorem small_tree {n : Nat} {q : Addr} {P : PySem.Fin → Shared → Prop} (F : Fr h₀ L s.heap m) (N : News h₀ L s.heap news) (ho : s.heap.get? a = some (seqObj "list" vs.toArray n)) (haL : a ≠ L) (ha0 : h₀.get? a = none) (hna : ∀ p ∈ news, p.1 < a) (h2 : vs.length < 2)
    (h : ∀ kS e1 h', Fr h₀ L h' m → News h₀ L h' ((kS, seqObj "list" #[] 0) :: (a, seqObj "list" #[] e1) :: news) → a < kS →
      KatKeys prog w A h₀ L m kS (.ref q) (fun ks e s' => KatFin h₀ L m kS a ks e e1 vs (fun s4 => P (.done (.ret .none)) s4) s') vs [] 0 { s with heap := h' }) :
    wpAny (model prog w) A (ksk_tree a (.ref q) false) P E s := by
  have ha : a < s.heap.objs.size := Heap.lt_size ho
  have sb := Heap.SameBut.update s.heap a (Obj.mapSeq fun _ => (#[] : Array Value))
  have ho1 : (s.heap.update a (Obj.mapSeq fun _ => (#[] : Array Value))).get? a = some (seqObj "list" #[] _) := get?_update_seq ho fun _ => #[]
  have F1 := kas_fr F sb haL ha0
  have N1 : News h₀ L _ ((a, seqObj "list" #[] _) :: news) := fun p hp => by
    rcases List.mem_cons.mp hp with rfl | hp
    · exact ⟨ho1, haL, ha0⟩
    · exact kas_news N sb (fun p hp => Nat.ne_of_lt (hna p hp)) p hp
  have F2 := F1.push (seqObj "tuple" vs.toArray 0)
  have N2 := nd1 (N1.push F1 (seqObj "tuple" vs.toArray 0))
  have N3 := N2.push F2 (seqObj "list" #[] 0)
  have hz : ((s.heap.update a (Obj.mapSeq fun _ => (#[] : Array Value))).push (seqObj "tuple" vs.toArray 0)).objs.size = s.heap.objs.size + 1 := by rw [size_push', Heap.size_update]
  unfold ksk_tree
  refine wpAny_bind (listItems_at ho rfl ?_)
  refine wpAny_bind (listUpdate_at ho rfl ?_ (by rw [List.size_toArray, sizeLine_eq]; omega) (Nat.zero_le _))
  refine wpAny_bind (seqEpoch_at ho1 rfl ?_)
  refine wpAny_bind (wpAny_newTuple ?_ (by show vs.length ≤ _; rw [sizeLine_eq]; omega))
  refine wpAny_bind (wpAny_newList ?_ (Nat.zero_le _))
  refine wpAny_holding ?_
  refine small_rest (s := { s with heap := ((s.heap.update a (Obj.mapSeq fun _ => (#[] : Array Value))).push (seqObj "tuple" vs.toArray 0)).push (seqObj "list" #[] 0) }) (Heap.get?_push_size _ rfl) h2 (h _ _ _ (F2.push _) N3 ?_)
  rw [hz]
  exact Nat.lt_succ_of_lt ha
theorem small_sorted {l q : Addr} {Q : Value → Shared → Prop} (F : Fr h₀ L s.heap m) (N : News h₀ L s.heap news) (hl : s.heap.IsList l vs.toArray) (h2 : vs.length < 2)
    (h : ∀ D kS e1 h', Fr h₀ L h' m → News h₀ L h' ((kS, seqObj "list" #[] 0) :: (D, seqObj "list" #[] e1) :: news) → D < kS → (∀ p ∈ news, p.1 < D) →
      KatKeys prog w A.in1.in1 h₀ L m kS (.ref q) (fun ks e s' => KatFin h₀ L m kS D ks e e1 vs (fun s4 => Q (.ref D) s4) s') vs [] 0 { s with heap := h' }) :
    wpAny (model prog w) A (call (.builtin "sorted") [.ref l] [(Str.ofString "key", .ref q)]) Q E s := by
  have Fa := F.push (seqObj "list" #[] 0)
  have keep : ∀ b o, s.heap.get? b = some o → ((s.heap.push (seqObj "list" #[] 0)).update s.heap.objs.size (Obj.mapSeq (· ++ vs.toArray))).get? b = some o := fun b o e => by
    have hb : b < s.heap.objs.size := Heap.lt_size e
    rw [Heap.get?_update_ne _ _ _ _ (Nat.ne_of_lt hb)]
    exact Heap.get?_push_of_some _ e
  have F1 : Fr h₀ L ((s.heap.push (seqObj "list" #[] 0)).update s.heap.objs.size (Obj.mapSeq (· ++ vs.toArray))) m := F.kept keep
  have N1 := N.grown keep
  have N2 := nd1 (N1.push F1 (seqObj "list" vs.toArray 0))
  have hz : ((s.heap.push (seqObj "list" #[] 0)).update s.heap.objs.size (Obj.mapSeq (· ++ vs.toArray))).objs.size = s.heap.objs.size + 1 := by rw [Heap.size_update, size_push']
  have hD := (N1.push F1 (seqObj "list" vs.toArray 0)) _ (.head _)
  have hlt : ∀ p ∈ news, p.1 < ((s.heap.push (seqObj "list" #[] 0)).update s.heap.objs.size (Obj.mapSeq (· ++ vs.toArray))).objs.size := fun p hp => by
    rw [hz]; exact Nat.lt_succ_of_lt (Heap.lt_size (N p hp).1)
  refine call_function_entry_kw kind_sorted plain_sorted entry_sorted (ksk_s1 _ _) ?_
  unfold Builtin.«sorted»
  refine wpAny_bind (m := checkCount "sorted" 1 1 _) (wpAny_pure ?_)
  refine wpAny_bind (collect_list hl ?_ (by rw [sizeLine_eq]; omega))
  refine wpAny_bind (wpAny_newList ?_ (by rw [sizeLine_eq]; omega))
  refine wpAny_bind (wpAny_holding (wpAny_call_entry_kw slot_list_sort ⟨_, hD.1, rfl⟩ entry_list_sort ?body (ksk_l1 _ _)))
  refine small_tree (s := { s with heap := _ }) (q := q) (F1.push _) N2 hD.1 hD.2.1 hD.2.2 hlt h2 fun kS e1 h' F' N' l0 => ?_
  refine kat_keys_mono (h _ kS e1 h' F' N' l0 hlt) fun ks e s' _ hd => ?_
  exact hd.mono fun s4 hq => ⟨_, rfl, wpAny_pure ⟨_, rfl, hq⟩⟩
end
end Mine.Eng
end
section
open PySem PySem.W PySem.W.X PySem.Spec PySem.Calls PyProof.Rows Mine
set_option maxRecDepth 100000
set_option maxHeartbeats 4000000
namespace Mine.Eng
/-- the order that K gives, as places -/
noncomputable def permK (xs : List Str) : List Nat := if xs.length < 2 then List.range xs.length else ((runT (ltE xs) xs.length (kas_sort xs.length)).getD #[]).toList
noncomputable def okK (xs : List Str) : Bool := decide (xs.length < 2) || (runT (ltE xs) xs.length (kas_sort xs.length)).isSome
theorem small_get : ∀ (vs : List Value), vs.length < 2 → ((List.range vs.length).map fun i => vs.getD i Value.none) = vs
  | [], _ => rfl
  | [_], _ => rfl
  | _ :: _ :: r, h => absurd h (by show ¬ r.length + 1 + 1 < 2; omega)
theorem sorted_KA (w : World) (news : List (Addr × Obj)) (cell C ns pp fI fL cI cL : Nat) (oC oN oP oI oL oci ocl occ : Obj) (l n : Nat) (vs : List Value) (xs : List Str) (hv : StrsAre vs xs) (hx : ∀ x ∈ xs, x ∈ nameL) (h8 : xs.length ≤ 8) (hok : okK xs = true)
   (p : Program) (loose : List Str) (mean : ExcName → Option Value) (mg mb : Str → Option Value) (dp un : Nat) (gd : Option (List Code)) (cn : Str) (cs : Scope) (a : Addr) (ccd : Value) (cl : List (Str × Addr)) (outer : List Env) (A₀ : Around) (base h₀ : Heap) (L : Addr) (m : Str → Option Value) (s : Shared) (Q E : Value → Shared → Prop)
    (B : Below A₀ base outer h₀) (F : Fr h₀ L s.heap m) (X : (hd.heap_1 w.params).In h₀) (N : News h₀ L s.heap news)
    (T : Top p loose mean mg mb h₀) (hk : cs.kind = .function) (hdp : dp + 40 < recursionLimit) (hu : un + 200 < cLine)
    (Z : ClsN w.params cell C ns pp fI fL cI cL oC oN oP oI oL oci ocl news) (mc : (cell, occ) ∈ news) (hoc : occ.data = .cell (some (.ref 162))) (ml : (l, listOf vs.toArray n) ∈ news)
    (hret : ∀ (D : Nat) c h' tk', Fr h₀ L h' m → News h₀ L h' ((D, listOf (List.toArray ((permK xs).map fun i => vs.getD i Value.none)) c) :: news) → (∀ q ∈ news, q.1 < D) → Q (.ref D) { s with heap := h', toks := tk' }) :
    wpAny (model PR w) (ktrTop dp un gd cn cs L a ccd cl outer) (call (.builtin "sorted") [.ref l] [(Str.ofString "key", .ref C)]) Q E s := by
  have hlen := strsAre_len hv
  by_cases h2 : xs.length < 2
  · have e : permK xs = List.range vs.length := by unfold permK; rw [if_pos h2, hlen]
    rw [e, small_get vs (by omega)] at hret
    refine small_sorted (vs := vs) F N ⟨_, (N _ ml).1, rfl, _, rfl⟩ (by omega) fun D kS e1 h' F' N' l1 l2 => ?_
    have Z' : ClsN w.params cell C ns pp fI fL cI cL oC oN oP oI oL oci ocl ((D, seqObj "list" #[] e1) :: news) := Z.mono fun q hq => .tail _ hq
    have hlt : ∀ q ∈ (D, seqObj "list" #[] e1) :: news, q.1 < kS := fun q hq => by
      rcases List.mem_cons.mp hq with rfl | hq
      · exact l1
      · exact Nat.lt_trans (l2 q hq) l1
    refine keys_K w ((D, seqObj "list" #[] e1) :: news) cell C ns pp fI fL cI cL oC oN oP oI oL oci ocl kS p loose mean mg mb dp (un + 1 + 1) gd cn cs a ccd cl outer A₀ base h₀ L m B X T hk (by omega) (by omega) Z' hlt _ vs xs hv [] [] [] 0 _ F' N' .nil (fun q hq => nomatch hq) fun ks il e h3 tk3 F3 N3 I hl => ?_
    have hil : ∀ q ∈ il, q.1 ≠ kS := fun q hq => Nat.ne_of_gt (hl q hq)
    refine KatFin.intro F3 N3 (updF_app hil fun q hq => Nat.ne_of_lt (hlt q hq)) fun h5 c F5 N5 => ?_
    have N6 : News h₀ L h5 ((il ++ [(kS, seqObj "list" #[] c)]) ++ (D, seqObj "list" #[] e1) :: news) := by
      rw [List.append_assoc]; exact N5
    refine KasFin.intro F5 N6 (updF_app (fun q hq => ?_) fun q hq => Nat.ne_of_lt (l2 q hq)) fun h6 c6 F6 N7 => ?_
    · rcases List.mem_append.mp hq with hq | hq
      · exact Nat.ne_of_gt (Nat.lt_trans l1 (hl q hq))
      · simp only [List.mem_cons, List.not_mem_nil, or_false] at hq
        subst hq
        exact Nat.ne_of_gt l1
    · exact hret D c6 h6 tk3 F6 (fun q hq => N7 q (List.mem_append_right _ hq)) l2
  · have hs : (runT (ltE xs) xs.length (kas_sort xs.length)).isSome = true := by
      unfold okK at hok
      rw [Bool.or_eq_true] at hok
      rcases hok with q | q
      · exact absurd (of_decide_eq_true q) h2
      · exact q
    obtain ⟨pm, hpm⟩ := Option.isSome_iff_exists.mp hs
    have e : permK xs = pm.toList := by unfold permK; rw [if_neg h2, hpm]; rfl
    rw [e] at hret
    exact sorted_K w news cell C ns pp fI fL cI cL oC oN oP oI oL oci ocl occ l n vs xs hv hx (by omega) h8 pm hpm p loose mean mg mb dp un gd cn cs a ccd cl outer A₀ base h₀ L m s Q E B F X N T hk hdp hu Z mc hoc ml hret
end Mine.Eng
end
section
open PySem PySem.W PySem.W.X PySem.Spec PySem.Calls PyProof.Rows Mine
set_option maxRecDepth 100000
set_option maxHeartbeats 4000000
namespace Mine.Eng
noncomputable abbrev tupO (e : Str) (t : Tok) (k : Int) (u : Tok) : Obj := { cls := .type "tuple", data := .seq #[.str e t, .int k u] 0 }
noncomputable def ltT (p q : Str × Int) : Bool := if (p.1 == q.1) = true then (if (p.2 == q.2) = true then false else decide (p.2 < q.2)) else ltS p.1 q.1
theorem lt_tup {prog : Program} {w : World} {A : Around} {E : Value → Shared → Prop} {s : Shared} {x y : Addr} {e1 e2 : Str} {k1 k2 : Int} {t1 t2 u1 u2 : Tok} {Q : Bool → Shared → Prop} (hx : s.heap.get? x = some (tupO e1 t1 k1 u1)) (hy : s.heap.get? y = some (tupO e2 t2 k2 u2))
    (h : Q (ltT (e1, k1) (e2, k2)) s) : wpAny (model prog w) A (keyLt' (tuples' true) (.ref x) (.ref y)) Q E s := by
  refine kat_lt hx rfl hy rfl ?_
  show KatLex prog w A true false Q [(.str e1 t1, .str e2 t2), (.int k1 u1, .int k2 u2)] 0 s
  refine kat_cons (eqBool_str ?_)
  unfold ltT at h
  cases q1 : (e1 == e2) with
  | false =>
    have q1' : ((e1, k1).1 == (e2, k2).1) = false := q1
    rw [q1', if_neg (by simp)] at h
    exact kat_no (oneLt_str h)
  | true =>
    have q1' : ((e1, k1).1 == (e2, k2).1) = true := q1
    rw [q1', if_pos rfl] at h
    refine kat_yes (kat_cons (wpAny_eqBool_int ?_))
    cases q2 : (k1 == k2) with
    | true =>
      have q2' : ((e1, k1).2 == (e2, k2).2) = true := q2
      rw [q2', if_pos rfl] at h
      exact kat_yes (kat_nil h)
    | false =>
      have q2' : ((e1, k1).2 == (e2, k2).2) = false := q2
      rw [q2', if_neg (by simp)] at h
      refine kat_no ?_
      show wpAny _ _ (oneLt' false _ _) _ _ _
      refine kat_one _ _ (lt_int ?_)
      first | exact h | exact ⟨_, rfl, h⟩
/-- tuples (ending, place) in the ledger -/
inductive Tups : List Value → List (Str × Int) → List (Addr × Obj) → Prop
  | nil : Tups [] [] []
  | snoc {vs ps l} {x : Nat} {e : Str} {t : Tok} {k : Int} {u : Tok} : Tups vs ps l → Tups (vs ++ [.ref x]) (ps ++ [(e, k)]) ((x, tupO e t k u) :: l)
theorem Tups.len {vs : List Value} {ps : List (Str × Int)} {l : List (Addr × Obj)} (h : Tups vs ps l) : vs.length = ps.length := by
  induction h with
  | nil => rfl
  | snoc _ ih => simp [ih]
theorem Tups.at {vs : List Value} {ps : List (Str × Int)} {l : List (Addr × Obj)} (h : Tups vs ps l) : ∀ {i : Nat}, i < vs.length → ∃ (x : Nat) (e : Str) (t : Tok) (k : Int) (u : Tok), vs.getD i Value.none = .ref x ∧ ps[i]? = some (e, k) ∧ (x, tupO e t k u) ∈ l := by
  induction h with
  | nil => intro i hi; simp at hi
  | @snoc vs ps l x e t k u h0 ih =>
    intro i hi
    have hl := h0.len
    by_cases hlt : i < vs.length
    · obtain ⟨x', e', t', k', u', a, b, c⟩ := ih hlt
      refine ⟨x', e', t', k', u', ?_, ?_, .tail _ c⟩
      · rw [List.getD_eq_getElem?_getD, List.getElem?_append_left hlt, ← List.getD_eq_getElem?_getD, a]
      · rw [List.getElem?_append_left (by omega)]; exact b
    · have hie : i = vs.length := by simp at hi; omega
      subst hie
      refine ⟨x, e, t, k, u, ?_, ?_, .head _⟩
      · rw [List.getD_eq_getElem?_getD, List.getElem?_append_right (Nat.le_refl _)]; simp
      · rw [hl, List.getElem?_append_right (Nat.le_refl _)]; simp
theorem tups_kat {h : Heap} : ∀ (vs : List Value) (es : List Value), vs.length = es.length → (∀ i, i < vs.length → ∃ x o xs n f, vs[i]? = some (.ref x) ∧ es[i]? = some f ∧ h.get? x = some o ∧ o.cls = .type "tuple" ∧ o.data = .seq xs n ∧ xs[0]? = some f) → KatTups h vs es
  | [], [], _, _ => .nil
  | [], _ :: _, h, _ => by simp at h
  | _ :: _, [], h, _ => by simp at h
  | v :: vs, e :: es, hl, hi => by
    obtain ⟨x, o, xs, n, f, a, b, c, d, e', g⟩ := hi 0 (by simp)
    simp only [List.getElem?_cons_zero, Option.some.injEq] at a b
    subst a
    subst b
    refine .cons c d e' g (tups_kat vs es (by simpa using hl) fun i hlt => ?_)
    obtain ⟨x, o, xs, n, f, a, b, r⟩ := hi (i + 1) (by simp; omega)
    exact ⟨x, o, xs, n, f, by simpa using a, by simpa using b, r⟩
noncomputable def ltP (ps : List (Str × Int)) (i j : Nat) : Bool := ltT (ps.getD i (Str.ofString "", 0)) (ps.getD j (Str.ofString "", 0))
theorem sorted_T2 (w : World) (news tl : List (Addr × Obj)) (l : Nat) (vs : List Value) (ps : List (Str × Int)) (hv : Tups vs ps tl) (h2 : 2 ≤ ps.length) (h8 : ps.length ≤ 8) (perm : Array Nat) (hperm : runT (ltP ps) ps.length (kas_sort ps.length) = some perm)
   (A : Around) (h₀ : Heap) (L : Addr) (m : Str → Option Value) (s : Shared) (Q E : Value → Shared → Prop) (F : Fr h₀ L s.heap m) (N : News h₀ L s.heap news) (ht : ∀ q ∈ tl, q ∈ news) (hl : s.heap.IsList l vs.toArray)
    (hret : ∀ (D : Nat) c h' tk', Fr h₀ L h' m → News h₀ L h' ((D, listOf (List.toArray (perm.toList.map fun i => vs.getD i Value.none)) c) :: news) → (∀ q ∈ news, q.1 < D) → Q (.ref D) { s with heap := h', toks := tk' }) :
    wpAny (model PR w) A (call (.builtin "sorted") [.ref l]) Q E s := by
  have hlen := hv.len
  refine kat_sorted (vs := vs) F N hl (by omega) (by omega) fun D e1 h' F' N' l2 => ?_
  have up : ∀ q ∈ tl, q ∈ (D, seqObj "list" #[] e1) :: news := fun q hq => .tail _ (ht q hq)
  refine kat_kind (fs := (List.range vs.length).map fun i => match (h'.get? (match vs.getD i Value.none with | .ref a => a | _ => 0)) with | some ⟨_, _, .seq xs _, _⟩ => xs.getD 0 Value.none | _ => Value.none) (T := .type "str") (tups_kat _ _ (by simp) fun i hi => ?_) (by simp; omega) (fun v hv' => ?_) (beq_self_eq_true _) ?_
  · obtain ⟨x, e, t, k, u, a, b, c⟩ := hv.at hi
    have hx := (N' _ (up _ c)).1
    refine ⟨x, _, _, _, .str e t, ?_, ?_, hx, rfl, rfl, rfl⟩
    · rw [List.getD_eq_getElem?_getD, List.getElem?_eq_getElem hi] at a
      rw [List.getElem?_eq_getElem hi]
      exact congrArg some a
    · rw [List.getElem?_map, List.getElem?_range hi, Option.map_some]
      try dsimp only
      rw [a]
      try dsimp only
      rw [hx]
      rfl
  · rw [List.mem_map] at hv'
    obtain ⟨i, hi, rfl⟩ := hv'
    rw [List.mem_range] at hi
    obtain ⟨x, e, t, k, u, a, b, c⟩ := hv.at hi
    have hx := (N' _ (up _ c)).1
    rw [a]
    try dsimp only
    rw [hx]
    exact Looks.of_pure rfl
  · rw [hlen]
    refine kas_pure (lt := ltP ps) (n := ps.length) (Inv := fun s' => ∃ h4 tk4, s' = { s with heap := h4, toks := tk4 } ∧ Fr h₀ L h4 m ∧ News h₀ L h4 ((D, seqObj "list" #[] e1) :: news)) (fun i j hi hj Cc s4 hs hC => ?_) (kas_sort ps.length) hperm ⟨h', s.toks, rfl, F', N'⟩ fun s4 hs => ?_
    · obtain ⟨h4, tk4, rfl, F4, N4⟩ := hs
      obtain ⟨x, e, t, k, u, a, b, c⟩ := hv.at (i := i) (by omega)
      obtain ⟨y, e', t', k', u', a', b', c'⟩ := hv.at (i := j) (by omega)
      unfold kas_ask
      rw [a, a']
      have hlx : ltP ps i j = ltT (e, k) (e', k') := by
        unfold ltP
        rw [List.getD_eq_getElem?_getD, List.getD_eq_getElem?_getD, b, b']
        rfl
      refine lt_tup (N4 _ (up _ c)).1 (N4 _ (up _ c')).1 ?_
      rw [← hlx]
      exact hC _ ⟨h4, tk4, rfl, F4, N4⟩
    · obtain ⟨h4, tk4, rfl, F4, N4⟩ := hs
      exact KasFin.intro F4 N4 (updF_app (pre := []) (fun q hq => nomatch hq) fun q hq => Nat.ne_of_lt (l2 q hq)) fun h6 c6 F6 N7 => hret D c6 h6 tk4 F6 N7 l2
end Mine.Eng
end
section
open PySem PySem.W PySem.W.X PySem.Spec PySem.Calls PyProof.Rows Mine
set_option maxRecDepth 100000
set_option maxHeartbeats 4000000
namespace Mine.Eng
noncomputable def endP (xs : List Str) : List (Str × Int) := (List.range xs.length).map fun i => (endS (xs.getD i (Str.ofString "")), (i : Int))
noncomputable def permT (xs : List Str) : List Nat := if xs.length < 2 then List.range xs.length else ((runT (ltP (endP xs)) xs.length (kas_sort xs.length)).getD #[]).toList
noncomputable def okT (xs : List Str) : Bool := decide (xs.length < 2) || (runT (ltP (endP xs)) xs.length (kas_sort xs.length)).isSome
noncomputable def strsB (a b : List Str) : Bool := decide (a = b)
noncomputable def bndB (l : List Nat) (n : Nat) : Bool := l.all fun i => decide (i < n)
noncomputable def checkS (xs : List Str) : Bool := okK xs && okT xs && strsB ((permK xs).map fun i => xs.getD i (Str.ofString "")) ((permT xs).map fun i => xs.getD i (Str.ofString "")) && bndB (permK xs) xs.length && bndB (permT xs) xs.length && decide ((permT xs).length ≤ 8)
noncomputable def rotL (t : Nat) : List Str := nameL.drop t ++ nameL.take t
noncomputable def subL : List Str → List (List Str)
  | [] => [[]]
  | x :: r => (subL r).flatMap fun l => [l, x :: l]
theorem sort_all : ((List.range 8).all fun t => (subL (rotL t)).all checkS) = true := by decide +kernel
end Mine.Eng
end
section
open PySem PySem.W PySem.W.X PySem.Spec PySem.Calls PyProof.Rows Mine
set_option maxRecDepth 100000
set_option maxHeartbeats 4000000
namespace Mine.Eng
section
variable {prog : Program} {w : World} {A : Around} {E : Value → Shared → Prop} {s : Shared} {h₀ : Heap} {L : Addr} {m : Str → Option Value} {news : List (Addr × Obj)} {vs : List Value} {a : Addr}
theorem tiny_sort {n : Nat} {P : PySem.Fin → Shared → Prop} (F : Fr h₀ L s.heap m) (N : News h₀ L s.heap news) (ho : s.heap.get? a = some (seqObj "list" vs.toArray n)) (haL : a ≠ L) (ha0 : h₀.get? a = none) (hna : ∀ p ∈ news, p.1 < a) (h2 : vs.length < 2)
    (h : ∀ c h', Fr h₀ L h' m → News h₀ L h' ((a, listOf vs.toArray c) :: news) → P (.done (.ret .none)) { s with heap := h' }) :
    wpAny (model prog w) A (Builtin.«list.sort» ⟨[.ref a], []⟩) P E s := by
  have sb := Heap.SameBut.update s.heap a (Obj.mapSeq fun _ => (#[] : Array Value))
  have ho1 : (s.heap.update a (Obj.mapSeq fun _ => (#[] : Array Value))).get? a = some (seqObj "list" #[] _) := get?_update_seq ho fun _ => #[]
  have F1 := kas_fr F sb haL ha0
  have N1 := kas_news N sb (fun p hp => Nat.ne_of_lt (hna p hp))
  have F3 := (F1.push (seqObj "tuple" vs.toArray 0)).push (seqObj "list" #[] 0)
  have N3 : News h₀ L _ news := (N1.grown fun b o e => Heap.get?_push_of_some (seqObj "tuple" vs.toArray 0) e).grown fun b o e => Heap.get?_push_of_some (seqObj "list" #[] 0) e
  have ho3 := Heap.get?_push_of_some (seqObj "list" #[] 0) (Heap.get?_push_of_some (seqObj "tuple" vs.toArray 0) ho1)
  have sb2 := Heap.SameBut.update (((s.heap.update a (Obj.mapSeq fun _ => (#[] : Array Value))).push (seqObj "tuple" vs.toArray 0)).push (seqObj "list" #[] 0)) a (Obj.mapSeq fun _ => vs.toArray)
  obtain ⟨c4, ho4⟩ : ∃ c, ((((s.heap.update a (Obj.mapSeq fun _ => (#[] : Array Value))).push (seqObj "tuple" vs.toArray 0)).push (seqObj "list" #[] 0)).update a (Obj.mapSeq fun _ => vs.toArray)).get? a = some (seqObj "list" vs.toArray c) := ⟨_, get?_update_seq ho3 fun _ => vs.toArray⟩
  have hsz : vs.toArray.size < 2 := by rw [List.size_toArray]; exact h2
  have hfit : vs.toArray.size ≤ sizeLine := by rw [sizeLine_eq]; omega
  rw [list_sort_plain]
  refine wpAny_bind (listItems_at ho rfl ?_)
  refine wpAny_bind (listUpdate_at ho rfl ?_ (by omega) (Nat.zero_le _))
  refine wpAny_bind (seqEpoch_at ho1 rfl ?_)
  refine wpAny_bind (wpAny_newTuple ?_ (by show vs.length ≤ _; rw [sizeLine_eq]; omega))
  refine wpAny_bind (wpAny_newList ?_ (Nat.zero_le _))
  refine wpAny_holding ?_
  show wpAny (model prog w) A _ P E { s with heap := ((s.heap.update a (Obj.mapSeq fun _ => (#[] : Array Value))).push (seqObj "tuple" vs.toArray 0)).push (seqObj "list" #[] 0) }
  dsimp only
  rw [if_pos hsz, if_pos hsz]
  refine wpAny_bind (wpAny_pure ?_)
  refine wpAny_bind (wpAny_pure ?_)
  have hout : (arrOf (SortSt.mk' general' (vs.toArray.zip vs.toArray) #[] 7 none)).map (·.2) = vs.toArray := small_zip vs vs rfl h2
  dsimp only
  rw [hout]
  refine wpAny_bind (seqEpoch_at ho3 rfl ?_)
  refine wpAny_bind (listUpdate_at ho3 rfl ?_ (Nat.zero_le _) (by omega))
  simp only [bne_self_eq_false, Bool.false_eq_true, if_false]
  refine wpAny_pure (h c4 _ (kas_fr F3 sb2 haL ha0) fun p hp => ?_)
  rcases List.mem_cons.mp hp with rfl | hp
  · exact ⟨ho4, haL, ha0⟩
  · exact kas_news N3 sb2 (fun p hp => Nat.ne_of_lt (hna p hp)) p hp
theorem tiny_sorted {l : Addr} {Q : Value → Shared → Prop} (F : Fr h₀ L s.heap m) (N : News h₀ L s.heap news) (hl : s.heap.IsList l vs.toArray) (h2 : vs.length < 2)
    (h : ∀ (D : Nat) c h', Fr h₀ L h' m → News h₀ L h' ((D, listOf vs.toArray c) :: news) → (∀ p ∈ news, p.1 < D) → Q (.ref D) { s with heap := h' }) :
    wpAny (model prog w) A (call (.builtin "sorted") [.ref l]) Q E s := by
  have keep : ∀ b o, s.heap.get? b = some o → ((s.heap.push (seqObj "list" #[] 0)).update s.heap.objs.size (Obj.mapSeq (· ++ vs.toArray))).get? b = some o := fun b o e => by
    have hb : b < s.heap.objs.size := Heap.lt_size e
    rw [Heap.get?_update_ne _ _ _ _ (Nat.ne_of_lt hb)]
    exact Heap.get?_push_of_some _ e
  have F1 : Fr h₀ L ((s.heap.push (seqObj "list" #[] 0)).update s.heap.objs.size (Obj.mapSeq (· ++ vs.toArray))) m := F.kept keep
  have N1 := N.grown keep
  have N2 := nd1 (N1.push F1 (seqObj "list" vs.toArray 0))
  have hz : ((s.heap.push (seqObj "list" #[] 0)).update s.heap.objs.size (Obj.mapSeq (· ++ vs.toArray))).objs.size = s.heap.objs.size + 1 := by rw [Heap.size_update, size_push']
  have hD := (N1.push F1 (seqObj "list" vs.toArray 0)) _ (.head _)
  have hlt : ∀ p ∈ news, p.1 < ((s.heap.push (seqObj "list" #[] 0)).update s.heap.objs.size (Obj.mapSeq (· ++ vs.toArray))).objs.size := fun p hp => by
    rw [hz]; exact Nat.lt_succ_of_lt (Heap.lt_size (N p hp).1)
  refine Calls.call_function_entry kind_sorted plain_sorted entry_sorted (args_sorted1 _) ?_
  unfold Builtin.«sorted»
  refine wpAny_bind (m := checkCount "sorted" 1 1 _) (wpAny_pure ?_)
  refine wpAny_bind (collect_list hl ?_ (by rw [sizeLine_eq]; omega))
  refine wpAny_bind (wpAny_newList ?_ (by rw [sizeLine_eq]; omega))
  refine wpAny_bind (wpAny_holding (wpAny_call_entry slot_list_sort ⟨_, hD.1, rfl⟩ entry_list_sort ?body (args_list_sort _)))
  refine tiny_sort (s := { s with heap := _ }) (F1.push _) N2 hD.1 hD.2.1 hD.2.2 hlt h2 fun c h' F' N' => ?_
  exact ⟨_, rfl, wpAny_pure ⟨_, rfl, h _ c h' F' N' hlt⟩⟩
end
theorem sorted_TA (w : World) (news tl : List (Addr × Obj)) (l : Nat) (vs : List Value) (xs : List Str) (hv : Tups vs (endP xs) tl) (h8 : xs.length ≤ 8) (hok : okT xs = true)
   (A : Around) (h₀ : Heap) (L : Addr) (m : Str → Option Value) (s : Shared) (Q E : Value → Shared → Prop) (F : Fr h₀ L s.heap m) (N : News h₀ L s.heap news) (ht : ∀ q ∈ tl, q ∈ news) (hl : s.heap.IsList l vs.toArray)
    (hret : ∀ (D : Nat) c h' tk', Fr h₀ L h' m → News h₀ L h' ((D, listOf (List.toArray ((permT xs).map fun i => vs.getD i Value.none)) c) :: news) → (∀ q ∈ news, q.1 < D) → Q (.ref D) { s with heap := h', toks := tk' }) :
    wpAny (model PR w) A (call (.builtin "sorted") [.ref l]) Q E s := by
  have hep : (endP xs).length = xs.length := by simp [endP]
  have hlen : vs.length = xs.length := hv.len.trans hep
  by_cases h2 : xs.length < 2
  · have e : permT xs = List.range vs.length := by unfold permT; rw [if_pos h2, hlen]
    rw [e, small_get vs (by omega)] at hret
    exact tiny_sorted F N hl (by omega) fun D c h' F' N' l' => hret D c h' s.toks F' N' l'
  · have hs : (runT (ltP (endP xs)) xs.length (kas_sort xs.length)).isSome = true := by
      unfold okT at hok
      rw [Bool.or_eq_true] at hok
      rcases hok with q | q
      · exact absurd (of_decide_eq_true q) h2
      · exact q
    obtain ⟨pm, hpm⟩ := Option.isSome_iff_exists.mp hs
    have e : permT xs = pm.toList := by unfold permT; rw [if_neg h2, hpm]; rfl
    rw [e] at hret
    exact sorted_T2 w news tl l vs (endP xs) hv (by omega) (by omega) pm (by rw [hep]; exact hpm) A h₀ L m s Q E F N ht hl hret
end Mine.Eng
end
section
open PySem PySem.W PySem.W.X PySem.Spec PySem.Calls PyProof.Rows Mine
set_option maxRecDepth 100000
set_option maxHeartbeats 4000000
namespace Mine.Eng
theorem filter_sub (f : Str → Bool) : ∀ l : List Str, l.filter f ∈ subL l
  | [] => .head _
  | x :: r => by
    have ih := filter_sub f r
    unfold subL
    rw [List.mem_flatMap]
    refine ⟨r.filter f, ih, ?_⟩
    cases q : f x with
    | true => rw [List.filter_cons, q, if_pos rfl]; exact .tail _ (.head _)
    | false => rw [List.filter_cons, q, if_neg (by simp)]; exact .head _
theorem sort_law {t : Nat} (ht : t < 8) (f : Str → Bool) : okK ((rotL t).filter f) = true ∧ okT ((rotL t).filter f) = true ∧
    ((permK ((rotL t).filter f)).map fun i => ((rotL t).filter f).getD i (Str.ofString "")) = ((permT ((rotL t).filter f)).map fun i => ((rotL t).filter f).getD i (Str.ofString "")) ∧ (∀ i ∈ permK ((rotL t).filter f), i < ((rotL t).filter f).length) ∧ (∀ i ∈ permT ((rotL t).filter f), i < ((rotL t).filter f).length) := by
  have h := sort_all
  rw [List.all_eq_true] at h
  have h1 := h t (List.mem_range.mpr ht)
  rw [List.all_eq_true] at h1
  have h2 := h1 _ (filter_sub f (rotL t))
  unfold checkS at h2
  rw [Bool.and_eq_true, Bool.and_eq_true, Bool.and_eq_true, Bool.and_eq_true, Bool.and_eq_true] at h2
  refine ⟨h2.1.1.1.1.1, h2.1.1.1.1.2, of_decide_eq_true h2.1.1.1.2, fun i hi => ?_, fun i hi => ?_⟩
  · exact of_decide_eq_true (List.all_eq_true.mp h2.1.1.2 i hi)
  · exact of_decide_eq_true (List.all_eq_true.mp h2.1.2 i hi)
theorem perm_len {t : Nat} (ht : t < 8) (f : Str → Bool) : (permT ((rotL t).filter f)).length ≤ 8 := by
  have h := sort_all
  rw [List.all_eq_true] at h
  have h1 := h t (List.mem_range.mpr ht)
  rw [List.all_eq_true] at h1
  have h2 := h1 _ (filter_sub f (rotL t))
  unfold checkS at h2
  rw [Bool.and_eq_true] at h2
  exact of_decide_eq_true h2.2
end Mine.Eng
end
local macro_rules | `(tactic| walk_at "execs cons") => `(tactic| (k_here; first | k_gentoks | (with_reducible refine PySem.wpAny_execs_cons ?_; (try dsimp only); (try k_fold))))
local macro_rules | `(tactic| walk_at "exec If") => `(tactic| (k_here; refine PySem.wpAny_If ?_; (try dsimp only); (try k_fold)))
section
example : Mine.Stp True := by first | (walk1; fail) | (w_top off; exact Mine.Stp.to trivial)
open PySem PySem.W PySem.Spec PySem.Calls PyProof.Rows Mine
set_option maxRecDepth 100000
set_option maxHeartbeats 4000000
namespace Mine
noncomputable def partL : List Str := [Str.ofString "\\.", Str.ofString "o", Str.ofString "a", Str.ofString "g", Str.ofString "any", Str.ofString "[co]", Str.ofString "[^.]", Str.ofString "[0-9]"]
/-- what _law_sign says -/
noncomputable def signB (n x : Str) : Bool :=
  if n = Str.ofString "any" then true
  else if n = Str.ofString "[co]" then (!(Builtin.Str.occurrences (Str.ofString "co") x 0 (Str.ofString "co").length 1).isEmpty) != (Txt.item (Str.ofString "[co]") 1 == Str.ofString "^")
  else if n = Str.ofString "[^.]" then (!(Builtin.Str.occurrences (Str.ofString ".") x 0 (Str.ofString ".").length 1).isEmpty) != (Txt.item (Str.ofString "[^.]") 1 == Str.ofString "^")
  else if n = Str.ofString "[0-9]" then (!decide (x.cps.toList < (Txt.item (Str.ofString "0-9") 0).cps.toList)) && (!decide ((Txt.item (Str.ofString "0-9") 2).cps.toList < x.cps.toList))
  else Txt.item n (-1) == x
theorem sign9 (x : Str) : signB (Str.ofString "[0-9]") x = ((!decide (x.cps.toList < (Txt.item (Str.ofString "0-9") 0).cps.toList)) && (!decide ((Txt.item (Str.ofString "0-9") 2).cps.toList < x.cps.toList))) := by kernel_rfl
theorem sign9c : (Txt.item (Str.ofString "[0-9]") 1 == Str.ofString "^") = false := by decide +kernel
theorem sign9a {x : Str} (q : x.cps.toList < (Txt.item (Str.ofString "0-9") 0).cps.toList) : ((!decide (x.cps.toList < (Txt.item (Str.ofString "0-9") 0).cps.toList)) != (Txt.item (Str.ofString "[0-9]") 1 == Str.ofString "^")) = signB (Str.ofString "[0-9]") x := by
  rw [sign9, sign9c]; simp [q]
theorem sign9b {x : Str} (q : ¬ x.cps.toList < (Txt.item (Str.ofString "0-9") 0).cps.toList) : ((!decide ((Txt.item (Str.ofString "0-9") 2).cps.toList < x.cps.toList)) != (Txt.item (Str.ofString "[0-9]") 1 == Str.ofString "^")) = signB (Str.ofString "[0-9]") x := by
  rw [sign9, sign9c]; simp [q]
theorem bool_end {h₀ : Heap} {L : Addr} {m : Str → Option Value} {news : List (Addr × Obj)} {s : Shared} {Q : Value → Shared → Prop} {e z : Bool} {h' : Heap} {k : Nat} (he : z = e) (hret : ∀ h' tk', Fr h₀ L h' m → News h₀ L h' news → Q (.bool e) { s with heap := h', toks := tk' }) (F : Fr h₀ L h' m) (N : News h₀ L h' news) :
    Q (.bool z) { s with heap := h', toks := k } := by subst he; exact hret _ _ F N
theorem law_sign {w : World} {news : List (Addr × Obj)} {n x : Str} {t u : Tok} (hn : n ∈ partL)
   {p : Program} {loose : List Str} {mean : ExcName → Option Value} {mg mb : Str → Option Value} {dp un : Nat} {gd : Option (List Code)} {cn : Str} {cs : Scope} {a : Addr} {ccd : Value} {cl : List (Str × Addr)} {outer : List Env} {A₀ : Around} {base h₀ : Heap} {L : Addr} {m : Str → Option Value} {s : Shared} {Q E : Value → Shared → Prop}
    (B : Below A₀ base outer h₀) (F : Fr h₀ L s.heap m) (X : (hd.heap_1 w.params).In h₀) (N : News h₀ L s.heap news)
    (T : Top p loose mean mg mb h₀) (hk : cs.kind = .function) (hdp : dp + 8 < recursionLimit) (hu : un + 64 < cLine)
    (hret : ∀ h' tk', Fr h₀ L h' m → News h₀ L h' news → Q (.bool (signB n x)) { s with heap := h', toks := tk' }) :
    wpAny (model PR w) (ktrTop dp un gd cn cs L a ccd cl outer) (call (.ref 136) [.str n t, .str x u]) Q E s := by
  unfold PR
  revert X; k_fill; intro X
  simp only [partL, List.mem_cons, List.not_mem_nil, or_false] at hn
  rcases hn with rfl | rfl | rfl | rfl | rfl | rfl | rfl | rfl
  all_goals (refine a_let ?_; intro K9; have hK9 : K9.depth = dp := rfl; have hK9u : K9.units = un := rfl)
  all_goals refine wpAny_call ?_
  all_goals k_dflt ktr_enter
  all_goals (with_reducible rename Fr _ _ _ _ => FE; refine fr_let FE ?_; clear FE; intro mE FE)
  all_goals k_steps
  all_goals refine bool_end (s := s) ?_ hret ?_ ?_
  all_goals first | k_asm | (first | exact nd1 (by k_asm) | exact nd2 (by k_asm) | exact nd3 (by k_asm)) | exact sign9a (by assumption) | exact sign9b (by assumption) | kernel_rfl
end Mine
end
section
open PySem PySem.W PySem.Spec PySem.Calls PyProof.Rows Mine
set_option maxRecDepth 100000
set_option maxHeartbeats 4000000
namespace Mine
section
open LCg LCt
/-- a comprehension with a test, by an invariant on (turn, items so far, ledger) -/
theorem comp_ind {prog : Program} {w : World} {A : Around} {s : Shared} {h₀ : Heap} {L : Addr} {m : Str → Option Value} {env : Env} {ct elt : Expr} {x : Str} {scope : Scope} {cl : List (Str × Addr)} {S : List (Addr × Obj) → Prop} {P : Nat → Value → Prop} {Fin : List Value → List (Addr × Obj) → Prop}
    {n : Nat} {news : List (Addr × Obj)} (I : Nat → List Value → List (Addr × Obj) → Prop) (h0 : I 0 [] news)
    (hs : ∀ k i ys news', i < n → I i ys news' → (∀ ys' news'', I (i + 1) ys' news'' → CompRestT prog w A h₀ L m env ct elt x scope cl s S P Fin k (i + 1) ys' news'') → CompRestT prog w A h₀ L m env ct elt x scope cl s S P Fin (k + 1) i ys news')
    (hF : ∀ ys news', I n ys news' → Fin ys news') : CompRestT prog w A h₀ L m env ct elt x scope cl s S P Fin n 0 [] news := by
  have key : ∀ k i ys news', i + k = n → I i ys news' → CompRestT prog w A h₀ L m env ct elt x scope cl s S P Fin k i ys news' := by
    intro k
    induction k with
    | zero => intro i ys news' e h; exact CompRestT.zero (hF _ _ (by rw [← e]; exact h))
    | succ k ih => intro i ys news' e h; exact hs k i ys news' (by omega) h fun ys' news'' h' => ih (i + 1) ys' news'' (by omega) h'
  exact key n 0 [] news (by omega) h0
end
/-- a for loop over known items, by an invariant on (turn, frame, ledger) -/
theorem items_ind {prog : Program} {w : World} {A : Around} {E : Value → Shared → Prop} {h₀ : Heap} {env : Env} {target : Expr} {body : List Stmt} {Q : Flow → Shared → Prop} {s : Shared} {ws : List (Addr × String)} {keep : List (Addr × Obj)} {xs : List Itm} {m : Str → Option Value} {news : List (Addr × Obj)}
    (I : Nat → (Str → Option Value) → List (Addr × Obj) → Prop) (h0 : I 0 m news)
    (hs : ∀ i a r m' news', xs[i]? = some a → I i m' news' → (∀ m'' news'', I (i + 1) m'' news'' → ItemsRest prog w A E h₀ env target body Q s ws keep r m'' news'') → ItemsRest prog w A E h₀ env target body Q s ws keep (a :: r) m' news')
    (hF : ∀ m' news' h tk, I xs.length m' news' → Fr h₀ env.locals h m' → News h₀ env.locals h news' → Q .next { s with heap := h, toks := tk }) : ItemsRest prog w A E h₀ env target body Q s ws keep xs m news := by
  have key : ∀ (r : List Itm) (i : Nat) m' news', xs.drop i = r → i ≤ xs.length → I i m' news' → ItemsRest prog w A E h₀ env target body Q s ws keep r m' news' := by
    intro r
    induction r with
    | nil =>
      intro i m' news' e hle h
      have : i = xs.length := by
        have := List.drop_eq_nil_iff.mp e
        omega
      subst this
      exact fun h' tk F N => hF m' news' h' tk h F N
    | cons a r ih =>
      intro i m' news' e hle h
      have hlt : i < xs.length := by
        rcases Nat.lt_or_ge i xs.length with q | q
        · exact q
        · rw [List.drop_eq_nil_iff.mpr q] at e; cases e
      rw [List.drop_eq_getElem_cons hlt] at e
      obtain ⟨e1, e2⟩ := List.cons.inj e
      exact hs i a r m' news' (by rw [List.getElem?_eq_getElem hlt, e1]) h fun m'' news'' h' => ih (i + 1) m'' news'' e2 hlt h'
  exact key xs 0 m news rfl (Nat.zero_le _) h0
end Mine
end
section
example : Mine.Stp True := by first | (walk1; fail) | (w_top off; exact Mine.Stp.to trivial)
open PySem PySem.W PySem.Spec PySem.Calls PyProof.Rows Mine
set_option maxRecDepth 100000
set_option maxHeartbeats 4000000
namespace Mine
theorem list_end {h₀ : Heap} {L : Addr} {m : Str → Option Value} {news : List (Addr × Obj)} {s : Shared} {Q : Value → Shared → Prop} {xs : Array Value} {parts : List Str} {l : Nat} {n : Nat} {h' : Heap} {tk' : Nat}
    (hret : ∀ (l : Nat) vs n h' tk', StrsAre vs parts → (∀ q ∈ news, q.1 < l) → Fr h₀ L h' m → News h₀ L h' ((l, listOf vs.toArray n) :: news) → Q (.ref l) { s with heap := h', toks := tk' }) (N : News h₀ L h' ((l, listOf xs n) :: news)) (F : Fr h₀ L h' m) (hl : ∀ q ∈ news, q.1 < l) (hs : StrsAre xs.toList parts) :
    Q (.ref l) { s with heap := h', toks := tk' } := hret l xs.toList n h' tk' hs hl F (by simpa using N)
theorem law_names {w : World} {news : List (Addr × Obj)}
   {p : Program} {loose : List Str} {mean : ExcName → Option Value} {mg mb : Str → Option Value} {dp un : Nat} {gd : Option (List Code)} {cn : Str} {cs : Scope} {a : Addr} {ccd : Value} {cl : List (Str × Addr)} {outer : List Env} {A₀ : Around} {base h₀ : Heap} {L : Addr} {m : Str → Option Value} {s : Shared} {Q E : Value → Shared → Prop}
    (B : Below A₀ base outer h₀) (F : Fr h₀ L s.heap m) (X : (hd.heap_1 w.params).In h₀) (N : News h₀ L s.heap news)
    (T : Top p loose mean mg mb h₀) (hk : cs.kind = .function) (hdp : dp + 8 < recursionLimit) (hu : un + 64 < cLine)
    (hret : ∀ (l : Nat) vs n h' tk', StrsAre vs nameL → (∀ q ∈ news, q.1 < l) → Fr h₀ L h' m → News h₀ L h' ((l, listOf vs.toArray n) :: news) → Q (.ref l) { s with heap := h', toks := tk' }) :
    wpAny (model PR w) (ktrTop dp un gd cn cs L a ccd cl outer) (call (.ref 122) []) Q E s := by
  unfold PR
  revert X; k_fill; intro X
  refine wpAny_call ?_
  k_dflt ktr_enter
  k_steps
  refine list_end (s := s) hret (by k_asm) (by k_asm) (by assumption) ?_
  exact .cons _ _ (.cons _ _ (.cons _ _ (.cons _ _ (.cons _ _ (.cons _ _ (.cons _ _ (.cons _ _ .nil)))))))
end Mine
end
section
open PySem PySem.W PySem.Spec PySem.Calls PyProof.Rows Mine
set_option maxRecDepth 100000
set_option maxHeartbeats 4000000
namespace Mine
noncomputable def minL : List Nat → Nat
  | [] => 0
  | [a] => a
  | a :: r => min a (minL r)
/-- the places behind a part -/
noncomputable def stepP (x : Str) (ps : List Nat) (part : Str) : List Nat :=
  if part = Str.ofString "many" then (match ps with
    | [] => []
    | _ => (List.range (x.length + 1)).filter fun k => decide (minL ps ≤ k))
  else (ps.filter fun k => decide (k < x.length) && signB part (Txt.item x k)).map (· + 1)
noncomputable def takesB (parts : List Str) (x : Str) : Bool := decide (x.length ∈ parts.foldl (stepP x) [0])
noncomputable def partsK : Nat → List Str
  | 0 => [Str.ofString "many", Str.ofString "\\.", Str.ofString "o"]
  | 1 => [Str.ofString "a", Str.ofString "many"]
  | 2 => [Str.ofString "many", Str.ofString "\\.", Str.ofString "[co]"]
  | 3 => [Str.ofString "[^.]", Str.ofString "many"]
  | 4 => [Str.ofString "any", Str.ofString "any", Str.ofString "any"]
  | 5 => [Str.ofString "many", Str.ofString "[0-9]"]
  | _ => [Str.ofString "many", Str.ofString "g", Str.ofString "many"]
noncomputable def idxK : Nat → List Nat
  | 0 => [0, 1]
  | 1 => [0, 2]
  | 2 => [0, 1, 2, 5]
  | 3 => [0, 1, 2, 3, 4, 5, 7]
  | 4 => [0, 1, 2, 3]
  | 5 => [4]
  | _ => [6, 7]
theorem takes_all : ((List.range 7).all fun k => (List.range 8).all fun i => takesB (partsK k) (nameL.getD i (Str.ofString "")) == decide (i ∈ idxK k)) = true := by decide +kernel
end Mine
end
section
open PySem PySem.W PySem.Spec PySem.Calls PyProof.Rows Mine
set_option maxRecDepth 100000
set_option maxHeartbeats 4000000
namespace Mine
noncomputable def takenF (k : Nat) : List Str := nameL.filter (takesB (partsK k))
/-- a rule: the pattern's place, and whether it takes in again -/
noncomputable abbrev Rl := Nat × Bool
noncomputable def ruledF (sk : List Str) (r : Rl) : List Str := if r.2 = true then without sk (takenF r.1) else sk ++ without (takenF r.1) sk
noncomputable def meantF (i : Nat) (rs : List Rl) : List Int := (rs.filter fun r => decide (i ∈ idxK r.1)).map fun r => if r.2 = true then 1 else 0
theorem mem_taken {k i : Nat} {x : Str} (hk : k < 7) (hi : i < 8) (hx : nameL.getD i (Str.ofString "") = x) : x ∈ takenF k ↔ i ∈ idxK k := by
  have h := takes_all
  rw [List.all_eq_true] at h
  have h1 := h k (List.mem_range.mpr hk)
  rw [List.all_eq_true] at h1
  have h2 := h1 i (List.mem_range.mpr hi)
  rw [hx, beq_iff_eq] at h2
  have hm : x ∈ nameL := by
    subst hx
    rw [List.getD_eq_getElem?_getD, List.getElem?_eq_getElem (show i < nameL.length from hi)]
    exact List.getElem_mem _
  unfold takenF
  rw [List.mem_filter, h2]
  simp [hm]
theorem mem_without {x : Str} {a b : List Str} : x ∈ without a b ↔ x ∈ a ∧ x ∉ b := by
  unfold without
  simp
theorem mem_ruled {i : Nat} {x : Str} (hi : i < 8) (hx : nameL.getD i (Str.ofString "") = x) : ∀ (rs : List Rl) (sk : List Str), (∀ r ∈ rs, r.1 < 7) →
    (x ∈ rs.foldl ruledF sk ↔ (match (meantF i rs).getLast? with | none => x ∈ sk | some b => b = 0))
  | [], sk, _ => by simp [meantF]
  | r :: rs, sk, h => by
    have ih := mem_ruled hi hx rs (ruledF sk r) fun q hq => h q (.tail _ hq)
    have hk := mem_taken (h r (.head _)) hi hx
    rw [List.foldl_cons, ih]
    have step : x ∈ ruledF sk r ↔ (if i ∈ idxK r.1 then r.2 = false else x ∈ sk) := by
      unfold ruledF
      by_cases hb : r.2 = true
      · rw [if_pos hb, mem_without, hk]
        by_cases hm : i ∈ idxK r.1
        · simp [hm, hb]
        · simp [hm]
      · rw [if_neg hb, List.mem_append, mem_without, hk]
        by_cases hm : i ∈ idxK r.1
        · simp only [hm, if_true, true_and]
          have hb' : r.2 = false := by simpa using hb
          simp [hb']
          exact Classical.em _
        · simp [hm]
    by_cases hm : i ∈ idxK r.1
    · have e : meantF i (r :: rs) = (if r.2 = true then 1 else 0) :: meantF i rs := by simp [meantF, hm]
      rw [e]
      cases hl : (meantF i rs).getLast? with
      | none =>
        have he : meantF i rs = [] := List.getLast?_eq_none_iff.mp hl
        rw [he]
        simp only [List.getLast?_singleton]
        rw [step, if_pos hm]
        cases r.2 <;> simp
      | some b =>
        have : ((if r.2 = true then (1 : Int) else 0) :: meantF i rs).getLast? = some b := by
          rw [List.getLast?_cons, hl]; rfl
        rw [this]
    · have e : meantF i (r :: rs) = meantF i rs := by simp [meantF, hm]
      rw [e]
      cases hl : (meantF i rs).getLast? with
      | none => simp only []; rw [step, if_neg hm]
      | some b => simp only []
/-- what the rules leave is what the table tells -/
theorem left_told {i : Nat} {x : Str} (hi : i < 8) (hx : nameL.getD i (Str.ofString "") = x) (rs : List Rl) (h : ∀ r ∈ rs, r.1 < 7) : (x ∉ rs.foldl ruledF []) ↔ (meantF i rs).getLast? ≠ some 0 := by
  have z := mem_ruled hi hx rs [] h
  rw [z]
  cases (meantF i rs).getLast? with
  | none => simp
  | some b => simp
end Mine
end
section
open PySem PySem.W PySem.Spec PySem.Calls PyProof.Rows Mine
set_option maxRecDepth 100000
set_option maxHeartbeats 4000000
namespace Mine
section
variable {prog : Program} {w : World} {A A₀ : Around} {E : Value → Shared → Prop} {s : Shared} {K : Frag} {L : Addr} {h₀ base : Heap} {m mg mb : Str → Option Value} {news : List (Addr × Obj)} {p : Program} {loose : List Str} {mean : ExcName → Option Value}
/-- a def with cells of its own, entered: as the library's rule, and the tokens do not fall -/
theorem code_defCT {env : Env} {outer : List Env} {R : Result → Shared → Prop} {name qual : Str} {params : Arguments} {body : List Stmt} {scope : Scope} {dV kV doc pm cdv ct oc : Value} {an od : Option Addr} {osl : Array (Option Value)} {f : Addr} {args : Args} {binds : List (Str × Value)}
    (B : Below A₀ base outer h₀) (F : Fr h₀ L s.heap m) (X₀ : K.In h₀) (N : News h₀ L s.heap news) (T : Top p loose mean mg mb h₀) (hA : A.frames = some (env :: outer)) (hf : env.frame = some L) (hke : env.scope.kind = .function)
    (ho : K.lookup f = some ⟨oc, od, .func (fnOf name qual params body scope dV kV doc pm an cdv ct), osl⟩) (hcd : codeIn K cdv qual = true) (hroom : A.depth < recursionLimit)
    (hbind : BindsTo s (fnOf name qual params body scope dV kV doc pm an cdv ct) args binds) (hkind : (binds.all fun y => scope.names.lookup y.1 == some .local || scope.names.lookup y.1 == some .cell) = true)
    (hnd : ((cellsFrom 0 scope.names []).map (·.1)).Nodup)
    (h : ∀ g L' h₁ tk cells, s.toks ≤ tk → Fr h₀ L g m → Fr g L' h₁ (bindL (envOfC qual scope L' f cdv).kindOf binds fun _ => none) → News g L' h₁ (cells ++ news) →
      CellsAre (bindC (envOfC qual scope L' f cdv).kindOf binds fun _ => none) (cellsFrom (L' + 1) scope.names []) cells → Below A base (env :: outer) g → K.In g → Top p loose mean mg mb g → (∀ p ∈ news, p.1 < L') →
      wpAny (model prog w) (A.deeper (envOfC qual scope L' f cdv)) (execs body (envOfC qual scope L' f cdv))
        (fun fl s' => LeaveK h₀ L m g R (match fl with | .ret v => v | _ => .none) s')
        (fun e s' => wpAny (model prog w) (A.deeper (envOfC qual scope L' f cdv)) (leaving (envOfC qual scope L' f cdv) e) (fun _ s'' => R (.error e) s'') (fun e' s'' => R (.error e') s'') s')
        { s with heap := h₁, toks := tk })
    (hco : scope.isCoroutine = false) (hgen : scope.isGenerator = false) (hk : scope.kind = .function) : codeAny (model prog w) A (.call (.ref f) args) R s := by
  have X₁ := X₀.keeps F.keep
  obtain ⟨FG, BG, st, lv⟩ := groundX (R := R) B F N hA hf hke
  have XG := X₀.keeps st
  have TG := T.keeps st
  refine codeAny_call_function (fd := fnX name qual params body scope [] dV kV doc pm an cdv ct) hroom (X₁ _ _ ho) rfl hco hgen rfl (codeRec_of X₁ hcd) (hbind _ _ _ _ (toks_useQ ?_))
  refine wpAny_newFunctionEnv_cells hk (kindsX hkind _) fun env' he s' x hle => ?_
  subst he
  refine ⟨(T.nolimit.keeps F.keep).keeps x.toInCall.keep, codeAny_func ?_⟩
  obtain ⟨h₁, tk, rfl, hk₁⟩ := x.done
  have key := Cl.news (h₀ := s.heap) (cs := cellsFrom (s.heap.objs.size + 1) scope.names []) (Nat.le_refl _) fun n c hm =>
    ⟨x.cell n c (lookup_of_mem_nodup (cellsFrom_names scope.names 0 (s.heap.objs.size + 1) [] [] rfl ▸ hnd) hm), x.above n c hm⟩
  obtain ⟨cells, NC, Y⟩ := key
  have F₁ : Fr (hideAll s.heap (news.map (·.1))) s.heap.objs.size h₁ (bindL (envOfC qual scope s.heap.objs.size f cdv).kindOf binds fun _ => none) :=
    ⟨x.toInCall.ns, fun b o e => hk₁ b o (of_hideAll _ e), Nat.le_of_eq (hideAll_size _ _)⟩
  have N₁ : News (hideAll s.heap (news.map (·.1))) s.heap.objs.size h₁ (cells ++ news) := by
    intro q hq
    rcases List.mem_append.mp hq with hq | hq
    · have z := NC q hq
      refine ⟨z.1, z.2.1, ?_⟩
      cases e : (hideAll s.heap (news.map (·.1))).get? q.1 with
      | none => rfl
      | some o => have e' := of_hideAll _ e; rw [z.2.2] at e'; cases e'
    · exact ⟨hk₁ _ _ (N q hq).1, Nat.ne_of_lt (Heap.lt_size (N q hq).1), hideAll_none _ (List.mem_map_of_mem hq)⟩
  exact wpAny_mono (h _ _ h₁ tk cells hle FG F₁ N₁ Y BG XG TG fun q hq => Heap.lt_size (N q hq).1) (fun fl s' hl => lv _ _ hl) fun _ _ y => y
end
theorem news_110 {h₀ : Heap} {L : Addr} {h : Heap} {a b c : Addr × Obj} {r : List (Addr × Obj)} (N : News h₀ L h (a :: b :: c :: r)) : News h₀ L h (c :: a :: b :: r) := by
  (repeat (refine npick N (by k_mem) ?_)); exact fun p hp => N p (by repeat (first | exact hp | apply List.Mem.tail))
theorem off110 {a b x : Nat} {oa ob : Obj} {news : List (Addr × Obj)} (h : ∀ p ∈ news, p.1 ≠ x) (ha : a ≠ x) (hb : b ≠ x) : ∀ p ∈ (a, oa) :: (b, ob) :: news, p.1 ≠ x := by
  intro p hp
  rcases List.mem_cons.mp hp with rfl | hp
  · exact ha
  · rcases List.mem_cons.mp hp with rfl | hp
    · exact hb
    · exact h p hp
theorem off110c {L : Nat} {oa ob : Obj} {news : List (Addr × Obj)} (h : ∀ p ∈ news, p.1 ≠ 110) (hL : 110 < L) : ∀ p ∈ (L + 1 + 1, oa) :: (L + 1, ob) :: news, p.1 ≠ 110 :=
  off110 h (by omega) (by omega)
end Mine
namespace Mine
theorem fr_name {h₀ h : Heap} {L : Addr} {m : Str → Option Value} (F : Fr h₀ L h m) : ∃ m0, m0 = m ∧ Fr h₀ L h m0 := ⟨m, rfl, F⟩
/-- a name that is not among the three comes first -/
theorem fr_front {h₀ h : Heap} {L : Addr} {R : Str → Option Value} {a b c d : Str} {vb vc vd : Option Value} (F : Fr h₀ L h (fun y => if y = b then vb else if y = c then vc else if y = d then vd else R y)) (hab : a ≠ b) (hac : a ≠ c) (had : a ≠ d) :
    ∃ (u : Option Value) (m0 : Str → Option Value), Fr h₀ L h (fun y => if y = a then u else if y = b then vb else if y = c then vc else if y = d then vd else m0 y) := by
  refine ⟨R a, R, ?_⟩
  have e : (fun y => if y = a then R a else if y = b then vb else if y = c then vc else if y = d then vd else R y) = fun y => if y = b then vb else if y = c then vc else if y = d then vd else R y := by
    funext y
    by_cases h1 : y = a
    · subst h1; simp [hab, hac, had]
    · simp [h1]
  rw [e]; exact F
inductive NatsAre : List Value → List Nat → Prop
  | nil : NatsAre [] []
  | cons {vs : List Value} {ns : List Nat} (n : Nat) (t : Tok) (h : NatsAre vs ns) : NatsAre (.int (n : Int) t :: vs) (n :: ns)
theorem NatsAre.snoc {vs : List Value} {ns : List Nat} (n : Nat) (t : Tok) (h : NatsAre vs ns) : NatsAre (vs ++ [.int (n : Int) t]) (ns ++ [n]) := by
  induction h with
  | nil => exact .cons n t .nil
  | cons k u h ih => exact .cons k u ih
theorem NatsAre.len {vs : List Value} {ns : List Nat} (h : NatsAre vs ns) : vs.length = ns.length := by
  induction h with
  | nil => rfl
  | cons k u h ih => simp [ih]
theorem NatsAre.get {vs : List Value} {ns : List Nat} (h : NatsAre vs ns) : ∀ (i : Nat) (v : Value), vs[i]? = some v → ∃ (n : Nat) (t : Tok), v = .int (n : Int) t ∧ ns[i]? = some n := by
  induction h with
  | nil => intro i v e; cases e
  | cons k u h ih =>
    intro i v e
    cases i with
    | zero => simp at e; exact ⟨k, u, e.symm, rfl⟩
    | succ i => exact ih i v (by simpa using e)
end Mine
end
section
open PySem PySem.W PySem.Spec PySem.Calls PyProof.Rows Mine
set_option maxRecDepth 100000
set_option maxHeartbeats 8000000
namespace Mine
noncomputable def patK : Nat → Str
  | 0 => Str.ofString "*.o"
  | 1 => Str.ofString "a*"
  | 2 => Str.ofString "*.[co]"
  | 3 => Str.ofString "[!.]*"
  | 4 => Str.ofString "???"
  | 5 => Str.ofString "*[0-9]"
  | _ => Str.ofString "*g*"
/-- _translate of each of the seven patterns -/
theorem tr_all {w : World} {news : List (Addr × Obj)} {ps : Array Value} (hps : TabOk ps.toList) {k : Nat} (hk7 : k < 7) {t1 t2 t3 : Tok}
   {p : Program} {loose : List Str} {mean : ExcName → Option Value} {mg mb : Str → Option Value} {dp un : Nat} {gd : Option (List Code)} {cn : Str} {cs : Scope} {a : Addr} {ccd : Value} {cl : List (Str × Addr)} {outer : List Env} {A₀ : Around} {base h₀ : Heap} {L : Addr} {m : Str → Option Value} {s : Shared} {Q E : Value → Shared → Prop}
    (B : Below A₀ base outer h₀) (F : Fr h₀ L s.heap m) (X : (hd.heap_1 w.params).In h₀) (CH : CodeHd base 114 110) (N : News h₀ L s.heap ((110, tabObj ps) :: news)) (hn110 : ∀ p ∈ news, p.1 ≠ 110) (T : Top p loose mean mg mb h₀) (hk : cs.kind = .function)
    (hT0 : TokLo t2 s.toks) (hdp : dp + 10 < recursionLimit) (hu : un + 100 < cLine)
    (hret : ∀ (l : Nat) vs n ps' h' tk' gs', (AllBare s.gens → AllBare gs') → StrsAre vs (partsK k) → TabOk ps'.toList → (∀ p ∈ ((110, tabObj ps) :: news), p.1 < l) → Fr h₀ L h' m → News h₀ L h' ((l, listOf vs.toArray n) :: (110, tabObj ps') :: news) → Q (.ref l) { s with heap := h', gens := gs', toks := tk' }) :
    wpAny (model PR w) (ktrTop dp un gd cn cs L a ccd cl outer) (call (.ref 115) [.str (patK k) t1, .str (Str.ofString "many") t2, .str (Str.ofString "any") t3]) Q E s := by
  rcases k with _ | _ | _ | _ | _ | _ | _ | k
  · exact tr_a w _ t1 t2 t3 p loose mean mg mb dp un gd cn cs a ccd cl outer A₀ base h₀ L m s Q E B F X N T hk hT0 hdp hu fun l vs n h' tk' h1 h2 h3 h4 => hret l vs n ps h' tk' s.gens id h1 hps h2 h3 h4
  · exact tr_b w _ t1 t2 t3 p loose mean mg mb dp un gd cn cs a ccd cl outer A₀ base h₀ L m s Q E B F X N T hk hT0 hdp hu fun l vs n h' tk' h1 h2 h3 h4 => hret l vs n ps h' tk' s.gens id h1 hps h2 h3 h4
  · exact tr_c w _ ps hps t1 t2 t3 p loose mean mg mb dp un gd cn cs a ccd cl outer A₀ base h₀ L m s Q E B F X CH N hn110 T hk hT0 hdp hu fun l vs n ps' h' tk' h1 h2 h3 h4 h5 => hret l vs n ps' h' tk' s.gens id h1 h2 h3 h4 h5
  · exact tr_d w _ ps hps t1 t2 t3 p loose mean mg mb dp un gd cn cs a ccd cl outer A₀ base h₀ L m s Q E B F X CH N hn110 T hk hT0 hdp hu fun l vs n ps' h' tk' h1 h2 h3 h4 h5 => hret l vs n ps' h' tk' s.gens id h1 h2 h3 h4 h5
  · exact tr_e w _ t1 t2 t3 p loose mean mg mb dp un gd cn cs a ccd cl outer A₀ base h₀ L m s Q E B F X N T hk hT0 hdp hu fun l vs n h' tk' h1 h2 h3 h4 => hret l vs n ps h' tk' s.gens id h1 hps h2 h3 h4
  · exact tr_f w _ ps hps t1 t2 t3 p loose mean mg mb dp un gd cn cs a ccd cl outer A₀ base h₀ L m s Q E B F X CH N hn110 T hk hT0 hdp hu hret
  · exact tr_g w _ t1 t2 t3 p loose mean mg mb dp un gd cn cs a ccd cl outer A₀ base h₀ L m s Q E B F X N T hk hT0 hdp hu fun l vs n h' tk' h1 h2 h3 h4 => hret l vs n ps h' tk' s.gens id h1 hps h2 h3 h4
  · exact absurd hk7 (by omega)
end Mine
end
section
open PySem PySem.W PySem.Spec PySem.Calls PyProof.Rows Mine
set_option maxRecDepth 100000
set_option maxHeartbeats 4000000
namespace Mine
noncomputable abbrev zN (ns : List Nat) : List Int := ns.map fun (n : Nat) => (n : Int)
section
variable {prog : Program} {w : World} {A : Around} {E : Value → Shared → Prop} {s : Shared} {h₀ : Heap} {L : Addr} {m : Str → Option Value} {news : List (Addr × Obj)}
theorem eq_strNe {x y : Str} {t u : Tok} {Q : Value → Shared → Prop} (hne : ¬ x = y) (h : Q (.bool false) s) : wpAny (model prog w) A (compareOp .Eq (.str x t) (.str y u)) Q E s :=
  PyProof.Rows.eq_str (by rw [show (x == y) = false by simp [hne]]; exact h)
theorem ne_full {a b : Addr} {vs : List Value} {ns : List Int} {k k2 : Nat} {Q : Value → Shared → Prop} (N : News h₀ L s.heap news) (ma : (a, W.listOf vs.toArray k) ∈ news) (mb : (b, W.listOf #[] k2) ∈ news) (hi : IntsAre vs ns) (hn : ns ≠ []) (hu : A.units + 64 < cLine)
    (h : Q (.bool true) s) : wpAny (model prog w) A (compareOp .NotEq (.ref a) (.ref b)) Q E s :=
  ne_intsK (us := []) (ms := []) ⟨_, (N _ ma).1, rfl, _, rfl⟩ hi ⟨_, (N _ mb).1, rfl, _, rfl⟩ .nil hu (by rw [show (!decide (ns = [])) = true by simp [hn]]; exact h)
theorem ne_none {a b : Addr} {k k2 : Nat} {Q : Value → Shared → Prop} (N : News h₀ L s.heap news) (ma : (a, W.listOf ([] : List Value).toArray k) ∈ news) (mb : (b, W.listOf #[] k2) ∈ news) (hu : A.units + 64 < cLine)
    (h : Q (.bool false) s) : wpAny (model prog w) A (compareOp .NotEq (.ref a) (.ref b)) Q E s :=
  ne_intsK (vs := []) (us := []) (ns := []) (ms := []) ⟨_, (N _ ma).1, rfl, _, rfl⟩ .nil ⟨_, (N _ mb).1, rfl, _, rfl⟩ .nil hu (by simpa using h)
theorem minL_mem : ∀ (ns : List Nat), ns ≠ [] → minL ns ∈ ns
  | [a], _ => by simp [minL]
  | a :: b :: r, _ => by
    have ih := minL_mem (b :: r) (by simp)
    show min a (minL (b :: r)) ∈ _
    rcases Nat.le_total a (minL (b :: r)) with q | q
    · rw [Nat.min_eq_left q]; exact .head _
    · rw [Nat.min_eq_right q]; exact .tail _ ih
theorem minL_le : ∀ (ns : List Nat) (x : Nat), x ∈ ns → minL ns ≤ x
  | [a], x, h => by simp at h; subst h; exact Nat.le_refl _
  | a :: b :: r, x, h => by
    show min a (minL (b :: r)) ≤ x
    rcases List.mem_cons.mp h with rfl | h
    · exact Nat.min_le_left _ _
    · exact Nat.le_trans (Nat.min_le_right _ _) (minL_le (b :: r) x h)
theorem min_made {l : Addr} {vs : List Value} {ns : List Nat} {k : Nat} {Q : Value → Shared → Prop} (F : Fr h₀ L s.heap m) (N : News h₀ L s.heap news) (ma : (l, W.listOf vs.toArray k) ∈ news) (hi : IntsAre vs (zN ns)) (hn : ns ≠ []) (hh : A.handled = none)
    (h : ∀ h' (t : Tok) tk, Fr h₀ L h' m → News h₀ L h' news → Q (.int (minL ns : Nat) t) { s with heap := h', toks := tk }) : wpAny (model prog w) A (call (.builtin "min") [.ref l]) Q E s := by
  refine min_list_N hh F N ⟨_, (N _ ma).1, rfl, _, rfl⟩ hi (by rw [List.length_map]; exact List.length_pos_iff.mpr hn) fun h' M t tk F' N' hM hle => ?_
  obtain ⟨n, hn1, rfl⟩ := List.mem_map.mp hM
  have e : n = minL ns := by
    have h1 := minL_le ns n hn1
    have h2 := hle _ (List.mem_map.mpr ⟨_, minL_mem ns hn, rfl⟩)
    omega
  rw [e]
  exact h h' t tk F' N'
end
theorem name_len : ∀ x ∈ nameL, x.length ≤ 6 := by decide +kernel
theorem parts_in : ∀ k, k < 7 → ∀ n ∈ partsK k, n = Str.ofString "many" ∨ n ∈ partL := by decide +kernel
theorem step_lt {x n : Str} {ns : List Nat} (h : ∀ p ∈ ns, p ≤ x.length) : ∀ p ∈ stepP x ns n, p ≤ x.length := by
  intro p hp
  unfold stepP at hp
  split at hp
  · split at hp
    · cases hp
    · have := (List.mem_filter.mp hp).1
      rw [List.mem_range] at this; omega
  · obtain ⟨q, hq, rfl⟩ := List.mem_map.mp hp
    have := (List.mem_filter.mp hq).2
    rw [Bool.and_eq_true] at this
    have := of_decide_eq_true this.1
    omega
theorem fold_lt {x : Str} : ∀ (ps : List Str) (ns : List Nat), (∀ p ∈ ns, p ≤ x.length) → ∀ p ∈ ps.foldl (stepP x) ns, p ≤ x.length
  | [], _, h => h
  | n :: r, ns, h => fold_lt r (stepP x ns n) (step_lt h)
end Mine
namespace Mine
section
variable {prog : Program} {w : World} {E : Value → Shared → Prop} {s : Shared} {h₀ : Heap} {L : Addr} {m : Str → Option Value} {news : List (Addr × Obj)} {dp un : Nat} {gd : Option (List Code)} {cn : Str} {cs : Scope} {La ad : Addr} {ccd : Value} {cl : List (Str × Addr)} {outer : List Env}
theorem ne_fullK {a b : Addr} {vs : List Value} {ns : List Int} {k k2 : Nat} {Q : Value → Shared → Prop} (N : News h₀ L s.heap news) (ma : (a, W.listOf vs.toArray k) ∈ news) (mb : (b, W.listOf #[] k2) ∈ news) (hi : IntsAre vs ns) (hn : ns ≠ []) (hu : un + 64 < cLine)
    (h : Q (.bool true) s) : wpAny (model prog w) (ktrTop dp un gd cn cs La ad ccd cl outer) (compareOp .NotEq (.ref a) (.ref b)) Q E s := ne_full N ma mb hi hn hu h
theorem ne_noneK {a b : Addr} {k k2 : Nat} {Q : Value → Shared → Prop} (N : News h₀ L s.heap news) (ma : (a, W.listOf ([] : List Value).toArray k) ∈ news) (mb : (b, W.listOf #[] k2) ∈ news) (hu : un + 64 < cLine)
    (h : Q (.bool false) s) : wpAny (model prog w) (ktrTop dp un gd cn cs La ad ccd cl outer) (compareOp .NotEq (.ref a) (.ref b)) Q E s := ne_none N ma mb hu h
end
end Mine
namespace Mine
theorem sub_refl {l : List (Addr × Obj)} : ∀ p ∈ l, p ∈ l := fun _ h => h
theorem sub_cons {a : Addr × Obj} {l l' : List (Addr × Obj)} (h : ∀ p ∈ l, p ∈ l') : ∀ p ∈ a :: l, p ∈ a :: l' := fun p hp => by
  rcases List.mem_cons.mp hp with rfl | hp
  · exact .head _
  · exact .tail _ (h p hp)
theorem sub_skip {a : Addr × Obj} {l l' : List (Addr × Obj)} (h : ∀ p ∈ l, p ∈ l') : ∀ p ∈ l, p ∈ a :: l' := fun p hp => .tail _ (h p hp)
theorem unr_end1 {h₀ : Heap} {L : Addr} {s₁ : Shared} {I2 lP : Addr} {oI2 lo : Obj} {R : (Str → Option Value) → List (Addr × Obj) → Prop} {h' : Heap} {tk : Nat} {m' : Str → Option Value} {all : List (Addr × Obj)} (news' : List (Addr × Obj))
    (F : Fr h₀ L h' m') (N : News h₀ L h' all) (hI : (I2, oI2) ∈ all) (sub : ∀ p ∈ news', p ∈ all) (off : ∀ p ∈ news', p.1 ≠ I2) (hk : (lP, lo) ∈ news') (r : R m' news') :
    UnrEndW h₀ L s₁ [(I2, oI2)] (fun m' n' => SubL [(lP, lo)] n' ∧ R m' n') { s₁ with heap := h', toks := tk } :=
  ⟨h', tk, m', news', rfl, F, fun p hp => by
    rcases List.mem_append.mp hp with hp | hp
    · rw [List.mem_singleton.mp hp]; exact N _ hI
    · exact N p (sub p hp), fun p hp q hq => by
    rw [List.mem_singleton.mp hq]; exact off p hp, ⟨hk, trivial⟩, r⟩
theorem rng_eq : ∀ b : Nat, b < 7 → ∀ a : Nat, a < b + 1 → rangeKs (a : Int) (b + 1 - a) = zN ((List.range (b + 1)).filter fun k => decide (a ≤ k)) := by decide +kernel
theorem rng_small : ∀ b : Nat, b < 7 → ∀ a : Nat, a < b + 1 → Builtin.Range.small (a : Int) ((b : Int) + 1) 1 = true ∧ Builtin.Range.rangeSize (a : Int) ((b : Int) + 1) 1 = ((b + 1 - a : Nat) : Int) := by decide +kernel
theorem list_rng {prog : Program} {w : World} {A : Around} {E : Value → Shared → Prop} {s : Shared} {h₀ : Heap} {L : Addr} {m : Str → Option Value} {news : List (Addr × Obj)} {r : Addr} {a b : Nat} {t₀ u₀ v₀ : Tok} {Q : Value → Shared → Prop}
    (hh : A.handled = none) (F : Fr h₀ L s.heap m) (N : News h₀ L s.heap news) (hr : IsRange s.heap r (a : Int) ((b : Int) + 1) 1 t₀ u₀ v₀) (hab : a ≤ b) (hb : b ≤ 6)
    (h : ∀ D us c h' tk, Fr h₀ L h' m → News h₀ L h' ((D, W.listOf (List.toArray us) c) :: news) → (∀ p ∈ news, p.1 < D) → IntsAre us (zN ((List.range (b + 1)).filter fun k => decide (a ≤ k))) → Q (.ref D) { s with heap := h', toks := tk }) :
    wpAny (model prog w) A (call (.type "list") [.ref r]) Q E s := by
  obtain ⟨h1, h2⟩ := rng_small b (by omega) a (by omega)
  refine kll_range hh F N hr h1 h2 (by omega) fun D us c h' tk F' N' l1 hi => ?_
  rw [rng_eq b (by omega) a (by omega)] at hi
  exact h D us c h' tk F' N' l1 hi
theorem step_many_nil (x : Str) : stepP x [] (Str.ofString "many") = [] := by
  unfold stepP; rw [if_pos rfl]
theorem step_many {x : Str} {a : Nat} {r : List Nat} : stepP x (a :: r) (Str.ofString "many") = (List.range (x.length + 1)).filter fun k => decide (minL (a :: r) ≤ k) := by
  unfold stepP; rw [if_pos rfl]
theorem step_part {x n : Str} {ns : List Nat} (h : ¬ n = Str.ofString "many") : stepP x ns n = (ns.filter fun k => decide (k < x.length) && signB n (Txt.item x k)).map (· + 1) := by
  unfold stepP; rw [if_neg h]
theorem foldl_take {α β : Type} (f : β → α → β) (b : β) (l : List α) (j : Nat) (a : α) (h : l[j]? = some a) : (l.take (j + 1)).foldl f b = f ((l.take j).foldl f b) a := by
  rw [List.take_add_one, h]; simp [List.foldl_append]
end Mine
namespace Mine
theorem intsN_get : ∀ {vs : List Value} {ns : List Nat}, IntsAre vs (zN ns) → ∀ (i : Nat) (v : Value), vs[i]? = some v → ∃ (n : Nat) (t : Tok), v = .int (n : Int) t ∧ ns[i]? = some n
  | [], [], _, i, v, e => by simp at e
  | _ :: _, n :: ns, .cons _ t h, i, v, e => by
    cases i with
    | zero => simp at e; exact ⟨n, t, e.symm, rfl⟩
    | succ i => exact intsN_get h i v (by simpa using e)
theorem intsN_len : ∀ {vs : List Value} {ns : List Nat}, IntsAre vs (zN ns) → vs.length = ns.length
  | [], [], _ => rfl
  | _ :: _, _ :: _, .cons _ _ h => by simp [intsN_len h]
theorem intsN_snoc : ∀ {vs : List Value} {ns : List Nat} {n : Nat} {t : Tok}, IntsAre vs (zN ns) → IntsAre (vs ++ [.int (n : Int) t]) (zN (ns ++ [n]))
  | [], [], n, t, _ => .cons _ t .nil
  | _ :: _, k :: ns, n, t, .cons _ u h => .cons _ u (intsN_snoc h)
theorem step_len {x n : Str} {ns : List Nat} (hx : x.length ≤ 6) (h : ns.length ≤ 7) : (stepP x ns n).length ≤ 7 := by
  unfold stepP
  split
  · split
    · simp
    · exact Nat.le_trans (List.length_filter_le _ _) (by rw [List.length_range]; omega)
  · rw [List.length_map]
    exact Nat.le_trans (List.length_filter_le _ _) h
theorem fold_len {x : Str} (hx : x.length ≤ 6) : ∀ (ps : List Str) (ns : List Nat), ns.length ≤ 7 → (ps.foldl (stepP x) ns).length ≤ 7
  | [], _, h => h
  | n :: r, ns, h => fold_len hx r (stepP x ns n) (step_len hx h)
theorem comp_next {f : Nat → Bool} {ns : List Nat} {i p : Nat} (h : ns[i]? = some p) : (((ns.take (i + 1)).filter f).map (· + 1)) = (((ns.take i).filter f).map (· + 1)) ++ (if f p = true then [p + 1] else []) := by
  rw [List.take_add_one, h]
  simp only [Option.toList_some, List.filter_append, List.map_append]
  congr 1
  by_cases q : f p = true
  · rw [if_pos q, List.filter_cons, if_pos q]; rfl
  · rw [if_neg q, List.filter_cons, if_neg q]; rfl
end Mine
namespace Mine
theorem in_N {prog : Program} {w : World} {A : Around} {E : Value → Shared → Prop} {s : Shared} {h₀ : Heap} {L : Addr} {news : List (Addr × Obj)} {l : Addr} {vs : List Value} {ns : List Nat} {k n : Nat} {t : Tok} {b : Bool} {Q : Value → Shared → Prop} (N : News h₀ L s.heap news) (ma : (l, W.listOf vs.toArray k) ∈ news) (hi : IntsAre vs (zN ns)) (hb : decide (n ∈ ns) = b)
    (h : Q (.bool b) s) : wpAny (model prog w) A (compareOp .In (.int (n : Int) t) (.ref l)) Q E s := by
  refine in_list_ints ⟨_, (N _ ma).1, rfl, _, rfl⟩ hi ?_
  have e : (zN ns).any (· == (n : Int)) = b := by
    rw [← hb, List.any_map]
    have : ∀ l : List Nat, l.any ((fun x => x == (n : Int)) ∘ fun (n : Nat) => (n : Int)) = decide (n ∈ l) := by
      intro l
      induction l with
      | nil => rfl
      | cons a r ih =>
        rw [List.any_cons, ih]
        by_cases q : a = n
        · subst q; simp
        · have q' : ¬ (a : Int) = (n : Int) := by omega
          have q2 : ¬ n = a := fun e => q e.symm
          simp [q2, q']
    exact this ns
  rw [e]; exact h
theorem filter_next {f : Str → Bool} {ns : List Str} {i : Nat} {p : Str} (h : ns[i]? = some p) : ((ns.take (i + 1)).filter f) = ((ns.take i).filter f) ++ (if f p = true then [p] else []) := by
  rw [List.take_add_one, h]
  simp only [Option.toList_some, List.filter_append]
  congr 1
  by_cases q : f p = true
  · rw [if_pos q, List.filter_cons, if_pos q]; rfl
  · rw [if_neg q, List.filter_cons, if_neg q]; rfl
theorem strsAre_snoc {vs : List Value} {xs : List Str} {b : Str} {u : Tok} (h : StrsAre vs xs) : StrsAre (vs ++ [.str b u]) (xs ++ [b]) := by
  induction h with
  | nil => exact .cons _ u .nil
  | cons x t h ih => exact .cons x t ih
end Mine
end
set_option hygiene false
local macro_rules | `(tactic| walk_at "callWith ref") => `(tactic| (k_here; k_dflt (refine PySem.W.callWith_K (by k_asm) (by k_is) ?_)))
set_option hygiene true
local macro_rules | `(tactic| walk_at "call ref") => `(tactic| (k_here; with_reducible refine Mine.at_c 122 ?_; k_dflt (refine Mine.law_names (by k_asm) (by k_asm) (by k_asm) (by k_asm) (by k_asm) (by rfl) (by first | decide | walk_at "oo") (by first | decide +kernel | walk_at "oo") ?_; intro l' vs' n' h' tk' hvs' hlt' F' N'; (try k_lt hlt'))))
set_option hygiene false
local macro_rules | `(tactic| walk_at "exec Assign cons ListComp") => `(tactic| (k_here; k_dflt (refine PyProof.Rows.LCt.Assign_ListComp_T (F₀ := by k_asm) (by rfl) (by with_unfolding_all rfl) (by with_unfolding_all rfl) (by decide) (by rfl) (by decide) (by rfl) (by rfl) (by rfl) ?_); k_dflt lct_toSrc))
local macro_rules | `(tactic| walk_at "CompSrcT") => `(tactic| (refine Mine.Stp.of ?_))
set_option hygiene true
set_option hygiene false
local macro_rules | `(tactic| walk_at "compareOp In int ref") => `(tactic| (k_here; k_dflt (refine Mine.in_N (by k_asm) (by k_mem) (by assumption) (by assumption) ?_)))
set_option hygiene true
section
example : Mine.Stp True := by first | (walk1; fail) | (w_top off; exact Mine.Stp.to trivial)
open PySem PySem.W PySem.Spec PySem.Calls PyProof.Rows Mine
set_option maxRecDepth 100000
set_option maxHeartbeats 4000000
namespace Mine
local macro_rules | `(tactic| walk_at "call ref") => `(tactic| (k_here; with_reducible refine at_c 115 ?_; k_dflt (refine tr_all ?_ ?_ (by k_asm) (by k_asm) (by k_asm) (by assumption) (news_110 (by k_asm)) (off110c (by assumption) (by assumption)) (by k_asm) (by rfl) (by exact ⟨by omega, by (try dsimp only); omega⟩) (by walk_at "oo") (by walk_at "oo") ?_; assumption; assumption; intro l' vs' n' ps' h' tk' gs' hgs' hvs' hps' hlt' F' N'; (try k_lt hlt'))))
local macro_rules | `(tactic| walk_at "compareOp Eq str str") => `(tactic| (k_here; refine eq_strNe (by assumption) ?_))
local macro_rules | `(tactic| walk_at "compareOp NotEq ref ref") => `(tactic| (k_here; k_dflt (first | (refine ne_noneK (by k_asm) (by k_mem) (by k_mem) (by walk_at "oo") ?_) | (refine ne_fullK (by k_asm) (by k_mem) (by k_mem) (by assumption) (by assumption) (by walk_at "oo") ?_); k_whole)))
local macro_rules | `(tactic| walk_at "call builtin:min") => `(tactic| (k_here; k_dflt (refine min_made (by k_asm) (by k_asm) (by k_mem) (by assumption) (by assumption) (by rfl) ?_); intro h' t' tk' F' N'))
local macro_rules | `(tactic| walk_at "call type:list") => `(tactic| (k_here; (with_reducible show wpAny _ _ (call (Value.type _) [Value.ref _]) _ _ _); with_reducible rename IsRange _ _ _ _ _ _ _ _ => rgX; k_dflt (refine list_rng (by rfl) (by k_asm) (by k_asm) (by exact rgX) (by assumption) (by assumption) ?_); intro l' vs' n' h' tk' F' N' l1 hI'; (try k_lt l1)))
local macro_rules | `(tactic| walk_at "call ref") => `(tactic| (k_here; with_reducible refine at_c 136 ?_; k_dflt (refine law_sign (by assumption) (by k_asm) (by k_asm) (by k_asm) (by k_asm) (by k_asm) (by rfl) (by walk_at "oo") (by walk_at "oo") ?_; intro h' tk' F' N')))
local macro_rules | `(tactic| walk_at "execs cons") => `(tactic| (k_here; first | ((fail_if_success (fail_if_success (have zz : StrsAre _ _ := by with_reducible assumption))); k_gentoks) | (with_reducible refine wpAny_execs_cons ?_; (try dsimp only); (try k_fold))))
inductive TakI (k : Nat) (L' lN lT lP : Nat) (vN vP : List Value) (nN nP : Nat) (psP : Array Value) (tk' : Nat) (m0 : Str → Option Value) (news : List (Addr × Obj)) : Nat → (Str → Option Value) → List (Addr × Obj) → Prop
  | mk {i : Nat} (pv : Option Value) (oP' oN' : Obj) (xP xN : Option Value) (vt : List Value) (nt : Nat) (dP : oP'.data = .cell xP) (dN : oN'.data = .cell xN) (hvt : StrsAre vt ((nameL.take i).filter (takesB (partsK k)))) :
    TakI k L' lN lT lP vN vP nN nP psP tk' m0 news i (fun y => if y = Str.ofString "places" then pv else if y = Str.ofString "taken" then some (Value.ref lT) else if y = Str.ofString "parts" then some (Value.ref lP) else if y = Str.ofString "star" then some (Value.str (Str.ofString "many") tk') else m0 y)
      ((lN, W.listOf vN.toArray nN) :: (lT, W.listOf vt.toArray nt) :: (lP, W.listOf vP.toArray nP) :: (110, tabObj psP) :: (L' + 1 + 1, oP') :: (L' + 1, oN') :: news)
inductive TakJ (k : Nat) (x : Str) (L' lN lT lP : Nat) (vN vt vP : List Value) (nN nt nP : Nat) (psP : Array Value) (tk' : Nat) (I I2 : Nat) (oI oN3 : Obj) (m0 : Str → Option Value) (news : List (Addr × Obj)) : Nat → (Str → Option Value) → List (Addr × Obj) → Prop
  | mk {j : Nat} (lq : Nat) (vq : List Value) (nq : Nat) (oP4 : Obj) (xP4 : Option Value) (dP4 : oP4.data = .cell xP4) (q1 : @Ne Nat lq I2) (q2 : @Ne Nat lq I) (q3 : @Ne Nat lq lN) (q4 : @Ne Nat lq lT) (q5 : @Ne Nat lq lP) (q6 : @Ne Nat lq 110) (q7 : @Ne Nat lq (L' + 1 + 1)) (q8 : @Ne Nat lq (L' + 1))
      (hvq : IntsAre vq (zN (((partsK k).take j).foldl (stepP x) [0]))) :
    TakJ k x L' lN lT lP vN vt vP nN nt nP psP tk' I I2 oI oN3 m0 news j (fun y => if y = Str.ofString "places" then some (Value.ref lq) else if y = Str.ofString "taken" then some (Value.ref lT) else if y = Str.ofString "parts" then some (Value.ref lP) else if y = Str.ofString "star" then some (Value.str (Str.ofString "many") tk') else m0 y)
      ((lq, W.listOf vq.toArray nq) :: (I, oI) :: (lN, W.listOf vN.toArray nN) :: (lT, W.listOf vt.toArray nt) :: (lP, W.listOf vP.toArray nP) :: (110, tabObj psP) :: (L' + 1 + 1, oP4) :: (L' + 1, oN3) :: news)
set_option maxHeartbeats 1500000 in
theorem law_taken {w : World} {news : List (Addr × Obj)} {ps : Array Value} (hps : TabOk ps.toList) {k : Nat} (hk7 : k < 7) {t : Tok}
   {p : Program} {loose : List Str} {mean : ExcName → Option Value} {mg mb : Str → Option Value} {dp un : Nat} {gd : Option (List Code)} {cn : Str} {cs : Scope} {a : Addr} {ccd : Value} {cl : List (Str × Addr)} {outer : List Env} {A₀ : Around} {base h₀ : Heap} {L : Addr} {m : Str → Option Value} {s : Shared} {Q E : Value → Shared → Prop}
    (B : Below A₀ base outer h₀) (F : Fr h₀ L s.heap m) (X : (hd.heap_1 w.params).In h₀) (CH : CodeHd base 114 110) (N : News h₀ L s.heap ((110, tabObj ps) :: news)) (hn110 : ∀ p ∈ news, p.1 ≠ 110)
    (T : Top p loose mean mg mb h₀) (hk : cs.kind = .function) (hdp : dp + 28 < recursionLimit) (hu : un + 164 < cLine) (h0 : 0 < s.toks)
    (hret : ∀ (l : Nat) vs n ps' h' tk' gs', (AllBare s.gens → AllBare gs') → StrsAre vs (takenF k) → TabOk ps'.toList → (∀ p ∈ ((110, tabObj ps) :: news), p.1 < l) → Fr h₀ L h' m → News h₀ L h' ((l, listOf vs.toArray n) :: (110, tabObj ps') :: news) → Q (.ref l) { s with heap := h', gens := gs', toks := tk' }) :
    wpAny (model PR w) (ktrTop dp un gd cn cs L a ccd cl outer) (call (.ref 141) [.str (patK k) t]) Q E s := by
  unfold PR
  revert X; k_fill; intro X
  refine wpAny_call ?_
  k_dflt (refine' code_defCT ?k1 ?k2 ?k3 ?k4 ?k5 ?kA ?kF ?kK ?k6 ?k7 ?k8 ?k9 ?kB ?kD ?_ ?c2 ?c3 ?c4; (case kA => exact rfl); (case kF => exact rfl); (case kK => assumption); (case k1 => k_asm); (case k2 => k_asm); (case k3 => k_asm); (case k4 => k_asm); (case k5 => k_asm); (case k6 => k_is); (case k7 => k_is); (case k8 => ktr_room); (case k9 => exact BindsTo.of_eq rfl); (case kB => exact rfl); (case kD => decide +kernel); (case c2 => exact rfl); (case c3 => exact rfl); (case c4 => exact rfl); k_whole)
  intro g' L' h' tk' cells' htk FG' F' N' Y' B' X' T' l1
  have h110 : 110 < L' := l1 _ (.head _)
  k_lt l1
  k_cells Y'
  try simp only [List.cons_append, List.nil_append] at N'
  try dsimp only
  k_steps
  rename_i oP oN dP dN _ _ hX _ _ lP vP nP psP hA tkA gsA hgsA hvP hpsP hltP hB _ _ lT hC l1T hD F8 N8
  obtain ⟨pv0, m0, F9⟩ := fr_front (a := Str.ofString "places") F8 (by decide) (by decide) (by decide)
  clear F8
  refine For_turns F9 ?_
  k_steps
  rename_i lN vN nN hE tkE hvN F10 N10 l1N
  refine iter_listTurns (by rfl) F10 N10 (.head _) rfl rfl fun I lI => ?_
  refine items_ind (I := TakI k L' lN lT lP vN vP nN nP psP tk' m0 news) ?_ ?_ ?_
  · exact .mk pv0 oP oN _ _ [] 0 dP dN .nil
  · intro i a r m' nw hi hI hrest
    have hex : ∃ v, a = .val v ∧ vN[i]? = some v := by
      have hi2 := hi
      rw [List.getElem?_map] at hi2
      obtain ⟨v, e1, e⟩ := Option.map_eq_some_iff.mp hi2
      exact ⟨v, e.symm, e1⟩
    obtain ⟨v, rfl, hv⟩ := hex
    obtain ⟨x, tx, rfl, hx⟩ := hvN.item i v hv
    obtain ⟨pv, oP', oN', xP, xN, vt, nt, dP', dN', hvt⟩ := hI
    clear N10 F10 F9
    refine ItemsRest.val fun h3 tk3 F3 => AllObj.cons fun oI hoI => AllObj.nil fun N3 => ?_
    change Fr g' L' h3 _ at F3
    change News g' L' h3 _ at N3
    k_lt lI
    try simp only [List.cons_append, List.nil_append] at N3
    k_steps
    rename_i hF oN3 dN3 _ _ lQ hG l1Q hH F11 N12
    have F12 := fr_over F11
    clear F11
    refine For_turns F12 ?_
    k_steps
    refine iter_listTurns (by rfl) F12 N12 (.tail _ (.tail _ (.tail _ (.tail _ (.head _))))) rfl rfl fun I2 lI2 => ?_
    refine items_ind (I := TakJ k x L' lN lT lP vN vt vP nN nt nP psP tk' I I2 oI oN3 m0 news) ?_ ?_ ?_
    · exact (.mk lQ _ 0 oP' _ dP' (Nat.ne_of_lt (lI2 _ (.head _))) (by k_ne) (by k_ne) (by k_ne) (by k_ne) (by k_ne) (by k_ne) (by k_ne) (.cons 0 _ .nil))
    · intro j a2 r2 m2 nw2 hj hJ hrest2
      have hex : ∃ v, a2 = .val v ∧ vP[j]? = some v := by
        have hi2 := hj
        rw [List.getElem?_map] at hi2
        obtain ⟨v, e1, e⟩ := Option.map_eq_some_iff.mp hi2
        exact ⟨v, e.symm, e1⟩
      obtain ⟨v2, rfl, hv2⟩ := hex
      obtain ⟨n, tn, rfl, hn⟩ := hvP.item j v2 hv2
      obtain ⟨lq, vq, nq, oP4, xP4, dP4, q1, q2, q3, q4, q5, q6, q7, q8, hvq⟩ := hJ
      clear N12 F12
      refine ItemsRest.val fun h5 tk5 F5 => AllObj.cons fun oI2 hoI2 => AllObj.nil fun N5 => ?_
      change Fr g' L' h5 _ at F5
      change News g' L' h5 _ at N5
      k_lt lI2
      try simp only [List.cons_append, List.nil_append] at N5
      have hxl : x.length ≤ 6 := name_len x (List.mem_of_getElem? hx)
      have hnp := parts_in k hk7 n (List.mem_of_getElem? hn)
      have hlt := fold_lt (x := x) ((partsK k).take j) [0] (by simp)
      generalize hns : ((partsK k).take j).foldl (stepP x) [0] = ns at hvq hlt
      by_cases hstar : n = Str.ofString "many"
      · subst hstar
        have hst : ((partsK k).take (j + 1)).foldl (stepP x) [0] = stepP x ns (Str.ofString "many") := by rw [foldl_take _ _ _ _ _ hn, hns]
        rcases ns with _ | ⟨n1, nr⟩
        · cases hvq
          rw [step_many_nil] at hst
          k_steps
          rename_i hI_ oI_ dI_ _ _ _ _ lE1 hJ_ l1E lE2 hK_ l2E hL_ F7 N7
          have F7 := fr_over F7
          refine unr_end1 ((lE2, W.listOf #[] 0) :: (I, oI) :: (lN, W.listOf vN.toArray nN) :: (lT, W.listOf vt.toArray nt) :: (lP, W.listOf vP.toArray nP) :: (110, tabObj psP) :: (L' + 1 + 1, oI_) :: (L' + 1, oN3) :: news) F7 N7 ?_ ?_ ?_ ?_ ?_
          · k_mem
          · with_reducible (repeat (first | exact sub_refl | refine sub_cons ?_ | refine sub_skip ?_))
          · k_all
          · k_mem
          · exact hrest2 _ _ (.mk lE2 [] 0 _ _ dI_ (by k_ne) (by k_ne) (by k_ne) (by k_ne) (by k_ne) (by k_ne) (by k_ne) (by k_ne) (by rw [hst]; exact .nil))
        · have hz : zN (n1 :: nr) ≠ [] := by simp
          have hz2 : (n1 :: nr) ≠ [] := by simp
          have hml : minL (n1 :: nr) ≤ x.length := hlt _ (minL_mem _ hz2)
          rw [step_many] at hst
          k_steps
          rename_i c0 oI_ dI_ _ _ _ _ lE1 c1 l1E c2 c3 c4 c5 c6 c7 c8 c9 c10 c11 lR vR nR c12 c13 hIR l1R c14 F7 N7
          have F7 := fr_over F7
          refine unr_end1 ((lR, W.listOf vR.toArray nR) :: (I, oI) :: (lN, W.listOf vN.toArray nN) :: (lT, W.listOf vt.toArray nt) :: (lP, W.listOf vP.toArray nP) :: (110, tabObj psP) :: (L' + 1 + 1, oI_) :: (L' + 1, oN3) :: news) F7 N7 ?_ ?_ ?_ ?_ ?_
          · k_mem
          · with_reducible (repeat (first | exact sub_refl | refine sub_cons ?_ | refine sub_skip ?_))
          · k_all
          · k_mem
          · exact hrest2 _ _ (.mk lR vR nR _ _ dI_ (by k_ne) (by k_ne) (by k_ne) (by k_ne) (by k_ne) (by k_ne) (by k_ne) (by k_ne) (by rw [hst]; exact hIR))
      · have hst : ((partsK k).take (j + 1)).foldl (stepP x) [0] = (ns.filter fun k => decide (k < x.length) && signB n (Txt.item x k)).map (· + 1) := by rw [foldl_take _ _ _ _ _ hn, hns, step_part hstar]
        k_steps
        refine Stp.to ?_
        rename_i c0 oI_ F7 N7 dI_ _ _ _ _
        have hvl := intsN_len hvq
        have hnl := fold_len hxl ((partsK k).take j) [0] (by simp)
        rw [hns] at hnl
        have hnP : n ∈ partL := hnp.resolve_left hstar
        refine LCt.CompSrcT.ledger (by rfl) F7 N7 (.tail _ (.head _)) (by rw [List.size_toArray, hvl]; exact Nat.le_trans hnl (by decide +kernel)) fun g9 => ?_
        refine comp_ind (I := fun i9 ys nw => nw = ((I2, oI2) :: (lq, W.listOf vq.toArray nq) :: (I, oI) :: (lN, W.listOf vN.toArray nN) :: (lT, W.listOf vt.toArray nt) :: (lP, W.listOf vP.toArray nP) :: (110, tabObj psP) :: (L' + 1 + 1, oI_) :: (L' + 1, oN3) :: news) ∧
          IntsAre ys (zN (((ns.take i9).filter fun k => decide (k < x.length) && signB n (Txt.item x k)).map (· + 1)))) ⟨rfl, .nil⟩ ?_ ?_
        · intro k9 i9 ys nw9 hi9 hI9 hrest9
          obtain ⟨rfl, hys⟩ := hI9
          refine LCt.CompRestT.succ ?_
          intro v9 I3 oI3 C3 oC3 D3 mC h9 tk9 E9 hv9 hC9 hx9 F9 N9 off9 ne9
          obtain ⟨pp, tp, rfl, hpp⟩ := intsN_get hvq i9 v9 (by simpa using hv9)
          have hnx := comp_next (f := fun k => decide (k < x.length) && signB n (Txt.item x k)) hpp
          clear F7 N7
          by_cases hpl : pp < x.length
          · k_steps
            · rename_i hsg
              rename News _ _ _ _ => N8
              rename Fr _ _ _ _ => F8
              rw [if_pos (by rw [hsg]; simp [hpl])] at hnx
              exact LCg.CompEnd.intro F8 N8 _ (fun p hp => hp) off9 (.inr ⟨_, .tail _ (.head _), rfl, _, rfl⟩) (hrest9 _ _ ⟨rfl, by rw [hnx]; exact intsN_snoc hys⟩)
            · rename_i hsg
              rename News _ _ _ _ => N8
              rename Fr _ _ _ _ => F8
              rw [if_neg (by rw [hsg]; simp), List.append_nil] at hnx
              exact LCg.CompEnd.intro F8 N8 _ (fun p hp => hp) off9 (.inr ⟨_, .tail _ (.head _), rfl, _, rfl⟩) (hrest9 _ _ ⟨rfl, by rw [hnx]; exact hys⟩)
          · k_steps
            rename News _ _ _ _ => N8
            rename Fr _ _ _ _ => F8
            rw [if_neg (by simp [hpl]), List.append_nil] at hnx
            exact LCg.CompEnd.intro F8 N8 _ (fun p hp => hp) off9 (.inr ⟨_, .tail _ (.head _), rfl, _, rfl⟩) (hrest9 _ _ ⟨rfl, by rw [hnx]; exact hys⟩)
        · intro ys nw9 hI9
          obtain ⟨rfl, hys⟩ := hI9
          intro D9 hA9 tkA9 FA NA oA
          have hlen9 : ns.take vq.toArray.size = ns := List.take_of_length_le (by rw [List.size_toArray, hvl]; exact Nat.le_refl _)
          rw [hlen9] at hys
          obtain ⟨e1, e2, e3, e4, e5, e6, e7, e8, e9, _⟩ := oA
          clear F7 N7
          k_steps
          rename News _ _ _ _ => N8
          rename Fr _ _ _ _ => F8
          have F8 := fr_over F8
          refine unr_end1 ((D9, W.listOf ys.toArray ys.length) :: (I, oI) :: (lN, W.listOf vN.toArray nN) :: (lT, W.listOf vt.toArray nt) :: (lP, W.listOf vP.toArray nP) :: (110, tabObj psP) :: (L' + 1 + 1, oI_) :: (L' + 1, oN3) :: news) F8 N8 ?_ ?_ ?_ ?_ ?_
          · k_mem
          · with_reducible (repeat (first | exact sub_refl | refine sub_cons ?_ | refine sub_skip ?_))
          · k_all
          · k_mem
          · exact hrest2 _ _ (.mk D9 ys ys.length _ _ dI_ (Ne.symm e1) (Ne.symm e3) (Ne.symm e4) (Ne.symm e5) (Ne.symm e6) (Ne.symm e7) (Ne.symm e8) (Ne.symm e9) (by rw [hst]; exact hys))
    · intro m5 nw5 h6 tk6 hJ F6 N6
      obtain ⟨lq, vq, nq, oP4, xP4, dP4, q1, q2, q3, q4, q5, q6, q7, q8, hvq⟩ := hJ
      change Fr g' L' h6 _ at F6
      change News g' L' h6 _ at N6
      have hlp : (partsK k).take (List.map Itm.val vP).length = partsK k := List.take_of_length_le (by rw [List.length_map, StrsAre.length hvP]; exact Nat.le_refl _)
      rw [hlp] at hvq
      have hfn := filter_next (f := takesB (partsK k)) hx
      have hxl : x.length ≤ 6 := name_len x (List.mem_of_getElem? hx)
      clear N12 F12
      cases htk : decide (x.length ∈ (partsK k).foldl (stepP x) [0]) with
      | true =>
        rw [if_pos (show takesB (partsK k) x = true from htk)] at hfn
        k_steps
        rename Fr _ _ _ _ => F8
        rename News _ _ _ _ => N8
        rw [List.push_toArray] at N8
        refine unr_end1 ((lN, W.listOf vN.toArray nN) :: (lT, W.listOf (vt ++ [Value.str x tx]).toArray (nt + 1)) :: (lP, W.listOf vP.toArray nP) :: (110, tabObj psP) :: (L' + 1 + 1, oP4) :: (L' + 1, oN3) :: news) F8 N8 ?_ ?_ ?_ ?_ ?_
        · k_mem
        · with_reducible (repeat (first | exact sub_refl | refine sub_cons ?_ | refine sub_skip ?_))
        · k_all
        · k_mem
        · exact hrest _ _ (.mk _ oP4 oN3 _ _ _ _ dP4 dN3 (by rw [hfn]; exact strsAre_snoc hvt))
      | false =>
        rw [if_neg (by unfold takesB; rw [htk]; simp), List.append_nil] at hfn
        k_steps
        rename Fr _ _ _ _ => F8
        rename News _ _ _ _ => N8
        refine unr_end1 ((lN, W.listOf vN.toArray nN) :: (lT, W.listOf vt.toArray nt) :: (lP, W.listOf vP.toArray nP) :: (110, tabObj psP) :: (L' + 1 + 1, oP4) :: (L' + 1, oN3) :: news) F8 N8 ?_ ?_ ?_ ?_ ?_
        · k_mem
        · with_reducible (repeat (first | exact sub_refl | refine sub_cons ?_ | refine sub_skip ?_))
        · k_all
        · k_mem
        · exact hrest _ _ (.mk _ oP4 oN3 _ _ _ _ dP4 dN3 (by rw [hfn]; exact hvt))
  · intro m5 nw5 h6 tk6 hJ F6 N6
    obtain ⟨pv, oP', oN', xP, xN, vt, nt, dP', dN', hvt⟩ := hJ
    change Fr g' L' h6 _ at F6
    change News g' L' h6 _ at N6
    have hlp : nameL.take (List.map Itm.val vN).length = nameL := List.take_of_length_le (by rw [List.length_map, StrsAre.length hvN]; exact Nat.le_refl _)
    rw [hlp] at hvt
    k_steps
    rename Fr _ _ _ _ => kF
    rename News _ _ _ _ => kN
    refine hret lT vt nt psP _ _ gsA hgsA hvt hpsP (fun q hq => ?_) kF (fun q hq => kN q ?_)
    · rcases List.mem_cons.mp hq with rfl | hq
      · exact l1T.2.1
      · exact allLt_lt l1T.2.2.2.2 q hq
    · simp only [List.mem_cons] at hq ⊢
      rcases hq with q | q | q <;> simp [q]
end Mine
end
section
example : Mine.Stp True := by first | (walk1; fail) | (w_top off; exact Mine.Stp.to trivial)
open PySem PySem.W PySem.Spec PySem.Calls PyProof.Rows Mine
set_option maxRecDepth 100000
set_option maxHeartbeats 4000000
namespace Mine
noncomputable abbrev tup2 (a b : Value) : Obj := { cls := .type "tuple", data := .seq #[a, b] }
inductive ILit : List PySem.Expr → List Int → Prop
  | nil : ILit [] []
  | cons {i : Int} {k : Nat} {p : Pos} {es : List PySem.Expr} {is : List Int} : ILit es is → ILit (.Constant (.int i) k p :: es) (i :: is)
inductive PLit : List PySem.Expr → List (Str × List Int) → Prop
  | nil : PLit [] []
  | cons {x : Str} {k kk : Nat} {p p2 p3 : Pos} {es es' : List PySem.Expr} {is : List Int} {d : List (Str × List Int)} : ILit es' is → PLit es d → PLit (.Tuple [.Constant (.str x) k p, .List es' p2] kk p3 :: es) ((x, is) :: d)
section
variable {M : Model} {A : Around} {E : Value → Shared → Prop} {h₀ : Heap} {L : Addr} {m : Str → Option Value} {env : Env}
theorem ints_lit {es : List PySem.Expr} {is : List Int} (H : ILit es is) : ∀ {pos : Pos} {s : Shared} {Q : List Value → Shared → Prop}, (∀ vs tk', IntsAre vs is → Q vs { s with toks := tk' }) → wpAny M A (spliced (backTo pos (starEach es env))) Q E s := by
  induction H with
  | nil => intro pos s Q h; exact args_nil (h [] s.toks .nil)
  | cons _ ih =>
    intro pos s Q h
    refine args_cons (wpAny_Constant_int ?_)
    exact ih fun vs tk' hvs => h _ tk' (.cons _ _ hvs)
theorem ilit_len {es : List PySem.Expr} {is : List Int} (H : ILit es is) : es.length = is.length := by
  induction H with
  | nil => rfl
  | cons _ ih => simp [ih]
theorem pats_lit {es : List PySem.Expr} {d : List (Str × List Int)} (H : PLit es d) : ∀ {pos : Pos} {s : Shared} {Q : List Value → Shared → Prop} {news : List (Addr × Obj)}, (∀ p ∈ d, p.2.length ≤ 100) → Fr h₀ L s.heap m → News h₀ L s.heap news →
    (∀ (vs : List Value) (led : List (Addr × Obj)) (h' : Heap) (tk' : Nat), vs.length = d.length → (∀ (j : Nat) (x : Str) (is : List Int), d[j]? = some (x, is) → ∃ (TT I : Nat) (t : Tok) (ws : List Value), vs[j]? = some (.ref TT) ∧ IntsAre ws is ∧ (∀ q ∈ news, @LT.lt Nat _ q.1 I) ∧ I < TT ∧
      (TT, tup2 (.str x t) (.ref I)) ∈ led ∧ (I, W.listOf ws.toArray 0) ∈ led) → Fr h₀ L h' m → News h₀ L h' (led ++ news) → Q vs { s with heap := h', toks := tk' }) →
    wpAny M A (spliced (backTo pos (starEach es env))) Q E s := by
  induction H with
  | nil => intro pos s Q news _ F N h; exact args_nil (h [] [] s.heap s.toks rfl (fun j x is e => nomatch e) F N)
  | cons hi hp ih =>
    intro pos s Q news hd F N h
    refine args_cons (Tuple_ (args_cons (Calls.Constant_str (args_cons (List_ (ints_lit hi fun ws tk1 hws => ?_))))))
    refine newList_N (s := { s with toks := tk1 }) F N (fun h1 F1 N1 => ?_) (by rw [IntsAre.length hws]; exact Nat.le_trans (hd _ (.head _)) (by decide +kernel))
    refine args_nil ?_
    refine newTuple_N (s := { s with heap := h1, toks := tk1 }) F1 N1 (fun h2 F2 N2 => ?_) (by show (2 : Nat) ≤ sizeLine; decide +kernel)
    refine ih (s := { s with heap := h2, toks := tk1 }) (fun p hp => hd p (.tail _ hp)) F2 N2 fun vs led h' tk' hl hk F' N' => ?_
    refine h _ (led ++ [_, _]) h' tk' (by simp [hl]) (fun j x is e => ?_) F' (by rw [List.append_assoc]; exact N')
    rcases j with _ | j
    · cases Option.some.inj e
      exact ⟨_, _, _, ws, rfl, hws, fun q hq => Heap.lt_size (N q hq).1, Heap.lt_size (N1 _ (.head _)).1, List.mem_append_right _ (.head _), List.mem_append_right _ (.tail _ (.head _))⟩
    · obtain ⟨TT, I, t, ws', a1, a2, a3, a4, a5, a6⟩ := hk j x is e
      exact ⟨TT, I, t, ws', a1, a2, fun q hq => a3 q (.tail _ (.tail _ hq)), a4, List.mem_append_left _ a5, List.mem_append_left _ a6⟩
end
noncomputable def patD : List (Str × List Int) := [(Str.ofString "*.o", [0, 1]), (Str.ofString "a*", [0, 2]), (Str.ofString "*.[co]", [0, 1, 2, 5]), (Str.ofString "[!.]*", [0, 1, 2, 3, 4, 5, 7]), (Str.ofString "???", [0, 1, 2, 3]), (Str.ofString "*[0-9]", [4]), (Str.ofString "*g*", [6, 7])]
theorem patD_at : ∀ k, k < 7 → patD[k]? = some (patK k, zN (idxK k))
  | 0, _ => rfl
  | 1, _ => rfl
  | 2, _ => rfl
  | 3, _ => rfl
  | 4, _ => rfl
  | 5, _ => rfl
  | 6, _ => rfl
  | k + 7, h => absurd h (by omega)
local macro_rules | `(tactic| walk_at "eval List") => `(tactic| (refine Stp.of ?_))
theorem law_patterns {w : World} {news : List (Addr × Obj)} {k : Nat} (hk7 : k < 7)
   {p : Program} {loose : List Str} {mean : ExcName → Option Value} {mg mb : Str → Option Value} {dp un : Nat} {gd : Option (List Code)} {cn : Str} {cs : Scope} {a : Addr} {ccd : Value} {cl : List (Str × Addr)} {outer : List Env} {A₀ : Around} {base h₀ : Heap} {L : Addr} {m : Str → Option Value} {s : Shared} {Q E : Value → Shared → Prop}
    (B : Below A₀ base outer h₀) (F : Fr h₀ L s.heap m) (X : (hd.heap_1 w.params).In h₀) (N : News h₀ L s.heap news)
    (T : Top p loose mean mg mb h₀) (hk : cs.kind = .function) (hdp : dp + 8 < recursionLimit) (hu : un + 64 < cLine)
    (hret : ∀ (l TT I : Nat) (vs : List Value) (n : Nat) (t : Tok) (ws : List Value) (n2 : Nat) h' tk', vs[k]? = some (.ref TT) → IntsAre ws (zN (idxK k)) → (∀ q ∈ news, @LT.lt Nat _ q.1 I) → I < TT → TT < l → Fr h₀ L h' m →
      News h₀ L h' ((l, W.listOf vs.toArray n) :: (TT, tup2 (.str (patK k) t) (.ref I)) :: (I, W.listOf ws.toArray n2) :: news) → Q (.ref l) { s with heap := h', toks := tk' }) :
    wpAny (model PR w) (ktrTop dp un gd cn cs L a ccd cl outer) (call (.ref 129) []) Q E s := by
  unfold PR
  revert X; k_fill; intro X
  refine wpAny_call ?_
  k_dflt ktr_enter
  k_steps
  refine Stp.to ?_
  with_reducible rename Fr _ _ _ _ => kF
  with_reducible rename News _ _ _ _ => kN
  refine List_ ?_
  refine' pats_lit (d := patD) ?hp ?hd ?F ?N ?c
  case F => exact kF
  case N => exact kN
  case hd => decide +kernel
  case hp => unfold patD; (repeat (first | exact PLit.nil | exact ILit.nil | refine PLit.cons ?_ ?_ | refine ILit.cons ?_))
  clear kF kN
  intro vs led h' tk' hl hK kF1 kN1
  obtain ⟨TT, I, t, ws, a1, a2, a3, a4, a5, a6⟩ := hK k (patK k) (zN (idxK k)) (patD_at k hk7)
  refine' newList_K ?F2 ?N2 ?c2 ?z2
  case F2 => exact kF1
  case N2 => exact kN1
  case z2 => rw [hl]; decide +kernel
  intro l h2 F2 N2 hlt
  k_steps
  with_reducible rename Fr _ _ _ _ => kF2
  with_reducible rename News _ _ _ _ => kN2
  exact hret l TT I vs 0 t ws 0 _ _ a1 a2 a3 a4 (hlt _ (List.mem_append_left _ a5)) kF2 (List.forall_mem_cons.mpr ⟨kN2 _ (.head _), List.forall_mem_cons.mpr ⟨kN2 _ (.tail _ (List.mem_append_left _ a5)), List.forall_mem_cons.mpr ⟨kN2 _ (.tail _ (List.mem_append_left _ a6)), fun q hq => kN2 q (.tail _ (List.mem_append_right _ hq))⟩⟩⟩)
end Mine
end
section
open PySem PySem.W PySem.Spec PySem.Calls PyProof.Rows Mine
set_option maxRecDepth 100000
set_option maxHeartbeats 4000000
namespace Mine
/-- a rule of the script: the pattern's place, and whether it takes in again -/
noncomputable def rlOf (r : Int) : Rl := (((r.fdiv 2).fmod 7).toNat, decide (r.fmod 2 = 1))
theorem rlOf_eq {r : Int} {k : Nat} (h : (r.fdiv 2).fmod 7 = (k : Int)) : rlOf r = (k, decide (r.fmod 2 = 1)) := by unfold rlOf; rw [h]; rfl
theorem taken_len (k : Nat) : (takenF k).length ≤ 8 := List.length_filter_le _ _
theorem ruled_len (sk : List Str) (r : Rl) : (ruledF sk r).length ≤ sk.length + 8 := by
  have h := taken_len r.1
  unfold ruledF
  split
  · exact Nat.le_trans (List.length_filter_le _ _) (by omega)
  · rw [List.length_append]
    have := List.length_filter_le (fun y => !decide (y ∈ sk)) (takenF r.1)
    unfold without
    omega
theorem rule_k (r : Int) : ∃ k : Nat, k < 7 ∧ (r.fdiv 2).fmod 7 = (k : Int) := by
  refine ⟨((r.fdiv 2).fmod 7).toNat, ?_, ?_⟩ <;> rw [Int.fmod_eq_emod_of_nonneg _ (by omega)] <;> omega
section
variable {prog : Program} {w : World} {A : Around} {E : Value → Shared → Prop} {s : Shared} {h₀ : Heap} {L : Addr} {m : Str → Option Value} {news : List (Addr × Obj)}
theorem item_K {value slice : PySem.Expr} {l : Addr} {vs : List Value} {n k : Nat} {e : Int} {u : Tok} {v : Value} {Q : Value → Shared → Prop} (N : News h₀ L s.heap news) (ma : (l, W.listOf vs.toArray n) ∈ news) (he : e = (k : Int)) (hk : k < 7) (hx : vs[k]? = some v) (h : Q v s)
    (hs : subscripted slice false (.ref l) (.int e u) = operate [.ref l, .int e u] (getItem (.ref l) (.int e u))) :
    wpAny (model prog w) A (subscriptTail value slice (.ref l) (.int e u)) Q E s := by
  have hl : s.heap.IsList l vs.toArray := ⟨_, (N _ ma).1, rfl, _, rfl⟩
  subst he
  exact tail_any hl.typeIs slot_list_getitem.lookup (wpAny_getItem_list hl (by omega) (by omega) (by simpa using hx) h) hs
theorem add_N {a b : Addr} {va vb : List Value} {n n2 : Nat} {Q : Value → Shared → Prop} (F : Fr h₀ L s.heap m) (N : News h₀ L s.heap news) (ma : (a, W.listOf va.toArray n) ∈ news) (mb : (b, W.listOf vb.toArray n2) ∈ news) (hz : va.length + vb.length ≤ 5000)
    (h : ∀ D h', Fr h₀ L h' m → News h₀ L h' ((D, W.listOf (va ++ vb).toArray 0) :: news) → (∀ p ∈ news, p.1 < D) → Q (.ref D) { s with heap := h' }) :
    wpAny (model prog w) A (binaryOp .Add (.ref a) (.ref b)) Q E s :=
  add_lists F N ⟨_, (N _ ma).1, rfl, _, rfl⟩ ⟨_, (N _ mb).1, rfl, _, rfl⟩ (fun h' F' N' => h _ h' F' N' fun p hp => Heap.lt_size (N p hp).1) (Nat.le_trans hz (by decide +kernel))
theorem news_two {a b : Addr × Obj} {h : Heap} (N : News h₀ L h news) (ma : a ∈ news) (mb : b ∈ news) : News h₀ L h (a :: b :: news) := fun q hq => by
  rcases List.mem_cons.mp hq with rfl | hq
  · exact N _ ma
  · rcases List.mem_cons.mp hq with rfl | hq
    · exact N _ mb
    · exact N _ hq
theorem news_3 {a b c d : Addr × Obj} {r : List (Addr × Obj)} {h : Heap} (N : News h₀ L h (a :: b :: c :: d :: r)) : News h₀ L h (d :: a :: b :: c :: r) := by
  (repeat (refine npick N (by k_mem) ?_)); exact fun p hp => N p (by repeat (first | exact hp | apply List.Mem.tail))
theorem off_3 {a b c x : Nat} {oa ob oc : Obj} (h : ∀ p ∈ news, p.1 ≠ x) (ha : a ≠ x) (hb : b ≠ x) (hc : c ≠ x) : ∀ p ∈ (a, oa) :: (b, ob) :: (c, oc) :: news, p.1 ≠ x := by
  intro p hp
  rcases List.mem_cons.mp hp with rfl | hp
  · exact ha
  · exact off110 h hb hc p hp
theorem item_T0 {value slice : PySem.Expr} {l : Addr} {a b : Value} {u : Tok} {Q : Value → Shared → Prop} (N : News h₀ L s.heap news) (ma : (l, tup2 a b) ∈ news) (h : Q a s)
    (hs : subscripted slice false (.ref l) (.int 0 u) = operate [.ref l, .int 0 u] (getItem (.ref l) (.int 0 u))) :
    wpAny (model prog w) A (subscriptTail value slice (.ref l) (.int 0 u)) Q E s :=
  item_tupleT (l := [a, b]) (j := 0) ⟨_, (N _ ma).1, rfl, _, rfl⟩ (by decide) (by decide) rfl rfl h hs
theorem item_T1 {value slice : PySem.Expr} {l : Addr} {a b : Value} {u : Tok} {Q : Value → Shared → Prop} (N : News h₀ L s.heap news) (ma : (l, tup2 a b) ∈ news) (h : Q b s)
    (hs : subscripted slice false (.ref l) (.int 1 u) = operate [.ref l, .int 1 u] (getItem (.ref l) (.int 1 u))) :
    wpAny (model prog w) A (subscriptTail value slice (.ref l) (.int 1 u)) Q E s :=
  item_tupleT (l := [a, b]) (j := 1) ⟨_, (N _ ma).1, rfl, _, rfl⟩ (by decide) (by decide) rfl rfl h hs
end
end Mine
end
local macro_rules | `(tactic| walk_at "call ref") => `(tactic| (k_here; with_reducible refine Mine.at_c 129 ?_; k_dflt (refine Mine.law_patterns (by assumption) (by k_asm) (by k_asm) (by k_asm) (by k_asm) (by k_asm) (by rfl) (by walk_at "oo") (by walk_at "oo") ?_; intro l' T' I' vs' n' t' ws' n2' h' tk' hvs' hws' hlt' o1' o2' F' N'; (try k_lt hlt'))))
set_option hygiene false
local macro_rules | `(tactic| walk_at "subscriptTail") => `(tactic| (k_here; with_reducible refine Mine.at_stn 0 ?_; k_dflt (refine Mine.item_T0 (by k_asm) (by k_mem) ?_ (by with_unfolding_all rfl))))
local macro_rules | `(tactic| walk_at "subscriptTail") => `(tactic| (k_here; with_reducible refine Mine.at_st ?_; k_dflt (refine Mine.item_K (by k_asm) (by k_mem) (by assumption) (by assumption) (by assumption) ?_ (by with_unfolding_all rfl))))
set_option hygiene true
section
example : Mine.Stp True := by first | (walk1; fail) | (w_top off; exact Mine.Stp.to trivial)
open PySem PySem.W PySem.Spec PySem.Calls PyProof.Rows Mine
set_option maxRecDepth 100000
set_option maxHeartbeats 4000000
namespace Mine
local macro_rules | `(tactic| walk_at "execs cons") => `(tactic| walk_at "gt")
local macro_rules | `(tactic| walk_at "execs nil") => `(tactic| walk_at "gt")
local macro_rules | `(tactic| walk_at "forall") => `(tactic| ((intro hTk9); (try dsimp only at hTk9)))
local macro_rules | `(tactic| walk_at "call ref") => `(tactic| (k_here; with_reducible refine at_c 141 ?_; k_dflt (refine law_taken ?_ ?_ (by k_asm) (by k_asm) (by k_asm) (by assumption) (by exact news_3 (by k_asm)) (by exact off_3 (by assumption) (by omega) (by omega) (by omega)) (by k_asm) (by rfl) (by walk_at "oo") (by walk_at "oo") (by walk_at "oo") ?_; assumption; assumption; intro l' vs' n' ps' h' tk' gs' hgs' hvs' hps' hlt' F' N'; (try k_lt hlt'))))
local macro_rules | `(tactic| walk_at "call ref") => `(tactic| (k_here; with_reducible refine at_c 91 ?_; refine Stp.of ?_))
theorem ruled_u (w : World) (news : List (Addr × Obj)) (ps : Array Value) (hps : TabOk ps.toList) (lS : Nat) (vS : List Value) (nS : Nat) (xS : List Str) (hS : StrsAre vS xS) (hSl : xS.length ≤ 500) (r : Int) (tr : Tok)
   (p : Program) (loose : List Str) (mean : ExcName → Option Value) (mg mb : Str → Option Value) (dp un : Nat) (gd : Option (List Code)) (cn : Str) (cs : Scope) (a : Addr) (ccd : Value) (cl : List (Str × Addr)) (outer : List Env) (A₀ : Around) (base h₀ : Heap) (L : Addr) (m : Str → Option Value) (s : Shared) (Q E : Value → Shared → Prop)
    (C : Cx w p loose mean mg mb cs A₀ base outer h₀) (F : Fr h₀ L s.heap m) (CH : CodeHd base 114 110)
    (N : News h₀ L s.heap ((110, tabObj ps) :: (lS, W.listOf vS.toArray nS) :: news)) (hn110 : ∀ p ∈ (lS, W.listOf vS.toArray nS) :: news, p.1 ≠ 110)
    (hdp : dp + 40 < recursionLimit) (hu : un + 300 < cLine) (h0 : 0 < s.toks)
    (hret : ∀ (l : Nat) vs n ps' h₀₂ h' tk' gs', (AllBare s.gens → AllBare gs') → StrsAre vs (ruledF xS (rlOf r)) → TabOk ps'.toList → (∀ p ∈ ((110, tabObj ps) :: (lS, W.listOf vS.toArray nS) :: news), p.1 < l) → Reb (frs outer) h₀ h₀₂ → Fr h₀₂ L h' m →
      News h₀₂ L h' ((l, W.listOf vs.toArray n) :: (110, tabObj ps') :: (lS, W.listOf vS.toArray nS) :: news) → Q (.ref l) { s with heap := h', gens := gs', toks := tk' }) :
    wpAny (model PR w) (ktrTop dp un gd cn cs L a ccd cl outer) (call (.ref 148) [.ref lS, .int r tr]) Q E s := by
  have B := C.B
  have hk := C.hk
  have T := C.T
  have X := C.X
  have XB := C.XB
  unfold PR
  revert X XB; k_fill; intro X XB
  refine wpAny_call ?_
  k_dflt walk_at "u_enter"
  rename Below (ktrTop dp un gd cn cs L a ccd cl outer) _ _ _ => BG
  obtain ⟨k, hk7, hkr⟩ := rule_k r
  refine gen_toks (lo := 1) (tk0 := s.toks + 2) ⟨by omega, by omega⟩ (show 1 < s.toks + 2 by omega) ?_
  intro tk hTl
  k_steps
  · refine Stp.to ?_
    rename_i lP TT II vP nP tP wP n2P hA tkA hvP hwP o1 o2 hltP hTkA lK vK nK psK hB tkB gsK hgsK hvK hpsK hltK hC F9 N9 _ _ _ _ hr2 tkC hTC
    refine' filter_u w _ lS lK vS vK xS (takenF k) hS hvK nS nK p loose mean mg mb (dp + 1) _ _ _ _ _ _ [] (envX cn cs L a ccd cl :: outer) (ktrTop dp un gd cn cs L a ccd cl outer) base _ _ _ _ _ _ ⟨BG, XB, C.TB, rfl⟩ F9 (news_two N9 ?m1 ?m2) ?g1 ?g2 ?g3 ?_
    case m1 => k_mem
    case m2 => k_mem
    case g1 => omega
    case g2 => ((try dsimp only); omega)
    case g3 => omega
    intro S vs c' g2 h' tk' hlt ha Rb F4 N4
    refine (show LeaveU outer h₀ L m _ _ _ _ from ⟨g2, _, _, _, Rb, F4, N4, fun h₀₃ R5 F5 N5 => ?_⟩)
    show Q (.ref S) _
    refine hret S vs c' psK h₀₃ _ _ gsK hgsK ?_ hpsK (fun q hq => ?_) R5 F5 (fun q hq => N5 q ?_)
    · rw [rlOf_eq hkr]
      unfold ruledF
      rw [if_pos (by simp [hr2])]
      exact ha
    · rcases List.mem_cons.mp hq with rfl | hq
      · exact hlt (110, tabObj psK) (.tail _ (.tail _ (.tail _ (.head _))))
      · refine hlt q ?_
        rcases List.mem_cons.mp hq with rfl | hq
        · exact .head _
        · repeat (first | exact hq | apply List.Mem.tail)
    · rcases List.mem_cons.mp hq with rfl | hq
      · exact .head _
      · rcases List.mem_cons.mp hq with rfl | hq
        · repeat (first | exact .head _ | apply List.Mem.tail)
        · rcases List.mem_cons.mp hq with rfl | hq
          · repeat (first | exact .head _ | apply List.Mem.tail)
          · repeat (first | exact hq | apply List.Mem.tail)
  · refine Stp.to ?_
    rename_i lP TT II vP nP tP wP n2P hA tkA hvP hwP o1 o2 hltP hTkA lK vK nK psK hB tkB gsK hgsK hvK hpsK hltK hC F9 N9 _ _ _ _ hr2 tkC hTC
    refine' filter_u w _ lK lS vK vS (takenF k) xS hvK hS nK nS p loose mean mg mb (dp + 1) _ _ _ _ _ _ [] (envX cn cs L a ccd cl :: outer) (ktrTop dp un gd cn cs L a ccd cl outer) base _ _ _ _ _ _ ⟨BG, XB, C.TB, rfl⟩ F9 (news_two N9 ?m1 ?m2) ?g1 ?g2 ?g3 ?_
    case m1 => k_mem
    case m2 => k_mem
    case g1 => omega
    case g2 => ((try dsimp only); omega)
    case g3 => have := taken_len k; omega
    intro S vs c' g2 h' tk' hlt ha Rb F4 N4
    have el := StrsAre.length ha
    have el2 := StrsAre.length hS
    have el3 := List.length_filter_le (fun y => !decide (y ∈ xS)) (takenF k)
    have el4 := taken_len k
    refine add_N F4 N4 (va := vS) (vb := vs) (by k_mem) (by k_mem) (by unfold without at el; omega) fun D h2 F6 N6 hD => ?_
    refine (show LeaveU outer h₀ L m _ _ _ _ from ⟨g2, _, _, _, Rb, F6, N6, fun h₀₃ R5 F5 N5 => ?_⟩)
    show Q (.ref D) _
    refine hret D (vS ++ vs) 0 psK h₀₃ _ _ gsK hgsK ?_ hpsK (fun q hq => ?_) R5 F5 (fun q hq => N5 q ?_)
    · rw [rlOf_eq hkr]
      unfold ruledF
      rw [if_neg (by simp [hr2])]
      exact StrsAre.append' hS ha
    · rcases List.mem_cons.mp hq with rfl | hq
      · exact hD (110, tabObj psK) (.tail _ (.tail _ (.tail _ (.tail _ (.head _)))))
      · refine hD q ?_
        rcases List.mem_cons.mp hq with rfl | hq
        · repeat (first | exact .head _ | apply List.Mem.tail)
        · repeat (first | exact hq | apply List.Mem.tail)
    · rcases List.mem_cons.mp hq with rfl | hq
      · exact .head _
      · rcases List.mem_cons.mp hq with rfl | hq
        · repeat (first | exact .head _ | apply List.Mem.tail)
        · rcases List.mem_cons.mp hq with rfl | hq
          · repeat (first | exact .head _ | apply List.Mem.tail)
          · repeat (first | exact hq | apply List.Mem.tail)
end Mine
end
section
example : Mine.Stp True := by first | (walk1; fail) | (w_top off; exact Mine.Stp.to trivial)
open PySem PySem.W PySem.Spec PySem.Calls PyProof.Rows Mine
set_option maxRecDepth 100000
set_option maxHeartbeats 4000000
namespace Mine
/-- a turn of a free loop has come to its end -/
noncomputable def TurnEnd (L it : Addr) (keep : List (Addr × Obj)) (K : Heap → (Str → Option Value) → List (Addr × Obj) → Prop) (s : Shared) (oI : Obj) (s₃ : Shared) : Prop :=
  ∃ h₀' m' news' h' tk' gs', s₃ = { s with heap := h', gens := gs', toks := tk' } ∧ (AllBare s.gens → AllBare gs') ∧ Fr h₀' L h' m' ∧ News h₀' L h' ((it, oI) :: news') ∧ (∀ p ∈ news', p.1 ≠ it) ∧ (∀ p ∈ keep, p ∈ news') ∧ K h₀' m' news'
noncomputable def TurnPost (L it : Addr) (keep : List (Addr × Obj)) (K : Heap → (Str → Option Value) → List (Addr × Obj) → Prop) (s : Shared) (oI : Obj) (Q : Flow → Shared → Prop) (f : Flow) (s₃ : Shared) : Prop :=
  match f with
  | .next => TurnEnd L it keep K s oI s₃
  | .cont => TurnEnd L it keep K s oI s₃
  | .brk => Q .next s₃
  | .ret v => Q (.ret v) s₃
theorem TurnEnd.intro {L it : Addr} {keep : List (Addr × Obj)} {K : Heap → (Str → Option Value) → List (Addr × Obj) → Prop} {s : Shared} {oI : Obj} {h₀' : Heap} {m' : Str → Option Value} {h' : Heap} {tk' : Nat} {gs' : Array GenState} {all : List (Addr × Obj)} (news' : List (Addr × Obj))
    (hg : AllBare s.gens → AllBare gs') (F : Fr h₀' L h' m') (N : News h₀' L h' all) (hI : (it, oI) ∈ all) (sub : ∀ p ∈ news', p ∈ all) (off : ∀ p ∈ news', p.1 ≠ it) (hk : ∀ p ∈ keep, p ∈ news') (r : K h₀' m' news') :
    TurnEnd L it keep K s oI { s with heap := h', gens := gs', toks := tk' } :=
  ⟨h₀', m', news', h', tk', gs', rfl, hg, F, fun p hp => by
    rcases List.mem_cons.mp hp with rfl | hp
    · exact N _ hI
    · exact N p (sub p hp), off, hk, r⟩
inductive LoopH (prog : Program) (w : World) (A : Around) (env : Env) (x : Str) (px : Pos) (body : List Stmt) (Q : Flow → Shared → Prop) (L : Addr) (keep : List (Addr × Obj)) (n : Nat) (K : Nat → Heap → (Str → Option Value) → List (Addr × Obj) → Prop) (itv : Value) (s₂ : Shared) : Prop
  | mk (it : Addr) (h₀ : Heap) (m : Str → Option Value) (news : List (Addr × Obj)) (oI : Obj) (gs : Array GenState) (P : Nat → Value → Prop) (St : Nat → Heap → Prop) (e : itv = .ref it) (eg : s₂.gens = gs)
      (W : Walks prog w A it (it :: keep.map (·.1)) [it] n P St) (hIo : ∀ i h, St i h → ∃ o, h.get? it = some o) (hst : St 0 s₂.heap) (F : Fr h₀ L s₂.heap m) (N : News h₀ L s₂.heap ((it, oI) :: news)) (hoff : ∀ p ∈ news, p.1 ≠ it) (hkeep : ∀ p ∈ keep, p ∈ news) (h0 : K 0 h₀ m news)
      (step : ∀ i v h₀' m' news' oI' h' tk' gs', i < n → P i v → St (i + 1) h' → K i h₀' m' news' → s₂.toks ≤ tk' → (AllBare s₂.gens → AllBare gs') → Fr h₀' L h' m' → News h₀' L h' ((it, oI') :: news') → (∀ p ∈ news', p.1 ≠ it) → (∀ p ∈ keep, p ∈ news') →
        ∀ E', wpAny (model prog w) A (assign (.Name x px) env v) (fun _ s₃ => wpAny (model prog w) A (execs body env) (TurnPost L it keep (K (i + 1)) { s₂ with heap := h', gens := gs', toks := tk' } oI' (fun f s₄ => s₂.toks ≤ s₄.toks → Q f s₄)) E' s₃) E' { s₂ with heap := h', gens := gs', toks := tk' })
      (fin : ∀ h₀' m' news' h' tk' gs', K n h₀' m' news' → s₂.toks ≤ tk' → (AllBare s₂.gens → AllBare gs') → Fr h₀' L h' m' → News h₀' L h' news' → Q .next { s₂ with heap := h', gens := gs', toks := tk' }) : LoopH prog w A env x px body Q L keep n K itv s₂
inductive LoopY (L it : Addr) (keep : List (Addr × Obj)) (n : Nat) (K : Nat → Heap → (Str → Option Value) → List (Addr × Obj) → Prop) (St : Nat → Heap → Prop) (s₂ : Shared) : Nat → Shared → Prop
  | mk {h₀ : Heap} {m : Str → Option Value} {news : List (Addr × Obj)} {oI : Obj} {h : Heap} {tk : Nat} {gs : Array GenState} {i : Nat} (htk : s₂.toks ≤ tk) (hg : AllBare s₂.gens → AllBare gs) (hst : St i h) (F : Fr h₀ L h m) (N : News h₀ L h ((it, oI) :: news))
      (ho : ∀ p ∈ news, p.1 ≠ it) (hk : ∀ p ∈ keep, p ∈ news) (hK : K i h₀ m news) (hi : i ≤ n) : LoopY L it keep n K St s₂ (n + 1 - i) { s₂ with heap := h, gens := gs, toks := tk }
/-- a for loop over an iterator that walks, whose turns may move the base and the generators -/
theorem for_walksY {prog : Program} {w : World} {A : Around} {E : Value → Shared → Prop} {s : Shared} {env : Env} {x : Str} {px : Pos} {iter : Expr} {body : List Stmt} {pos : Pos} {Q : Flow → Shared → Prop} {L : Addr} (hL : env.locals = L)
    {keep : List (Addr × Obj)} {n : Nat} (K : Nat → Heap → (Str → Option Value) → List (Addr × Obj) → Prop)
    (h : wpAny (model prog w) A (eval iter env) (fun xv s₁ => wpAny (model prog w) A (pyIter xv) (fun itv s₂ => LoopH prog w A env x px body Q L keep n K itv s₂) E s₁) E s)
    (hs : ∀ x, foldedSetIterable iter env x = pure x := by intro _; rfl) :
    wpAny (model prog w) A (exec (.For (.Name x px) iter body [] pos) env) Q E s := by
  subst hL
  refine wpAny_For (wpAny_mono h (fun xv s₁ h₁ => wpAny_mono h₁ (fun itv s₂ h₂ => ?_) fun _ _ e => e) fun _ _ e => e) hs
  obtain ⟨it, h₀, m, news, oI, gs, P, St, rfl, _, W, hIo, hst, F, N, hoff, hkeep, h0, step, fin⟩ := h₂
  refine codeAny_forLoop_any (LoopY env.locals it keep n K St s₂) ?_ (n + 1) (LoopY.mk (s₂ := s₂) (i := 0) (gs := s₂.gens) (Nat.le_refl _) id hst F N hoff hkeep h0 (Nat.zero_le _))
  rintro _ _ ⟨htk, hg, hst', F', N', ho', hk', hK, hi⟩
  rename_i h₀' m' news' oI' h' tk' gs' i
  have zI := N' (it, oI') (.head _)
  have hLit : env.locals ≠ it := Ne.symm zI.2.1
  have next : ∀ h₁ : Heap, (∀ b o, b ∉ [it] → h'.get? b = some o → h₁.get? b = some o) → Fr h₀' env.locals h₁ m' ∧ News h₀' env.locals h₁ news' := fun h₁ hk₁ =>
    ⟨⟨F'.ns.at' fun o e => hk₁ _ o (by simpa using hLit) e, fun b o e => hk₁ b o (fun q => by rw [List.mem_singleton.mp q, zI.2.2] at e; cases e) (F'.keep b o e), F'.above⟩,
      fun p hp => ⟨hk₁ _ _ (by simpa using ho' p hp) (N' p (.tail _ hp)).1, (N' p (.tail _ hp)).2⟩⟩
  by_cases hlt : i < n
  · refine toks_useQ (W.item i _ _ _ hlt hst' fun v h₁ tk₁ hP hst₁ hk₁ hle => ?_)
    obtain ⟨F₁, N₁⟩ := next h₁ hk₁
    obtain ⟨oI₁, hoI₁⟩ := hIo _ _ hst₁
    have N₁' : News h₀' env.locals h₁ ((it, oI₁) :: news') := fun p hp => by
      rcases List.mem_cons.mp hp with rfl | hp
      · exact ⟨hoI₁, zI.2⟩
      · exact N₁ p hp
    have hle' : s₂.toks ≤ tk₁ := Nat.le_trans htk hle
    refine wpAny_of_eq (rfl : letOwnedTupleGo (.Name x px) (.ref it) v = pure ()) ?_
    refine toks_useQ (wpAny_mono (step i v h₀' m' news' oI₁ h₁ tk₁ gs' hlt hP hst₁ hK hle' hg F₁ N₁' ho' hk' _) (fun _ s₃ h₃ hle3 => toks_useQ (wpAny_mono h₃ (fun f s₄ h₄ hle4 => ?_) fun _ _ e => e)) fun _ _ e => e)
    have hle5 : s₂.toks ≤ s₄.toks := Nat.le_trans hle' (Nat.le_trans hle3 hle4)
    have fin4 : TurnEnd env.locals it keep (K (i + 1)) { s₂ with heap := h₁, gens := gs', toks := tk₁ } oI₁ s₄ → ∃ mm, mm < n + 1 - i ∧ LoopY env.locals it keep n K St s₂ mm s₄ := by
      rintro ⟨h₀₂, m₂, news₂, h₂, tk₂, gs₂, rfl, hg₂, F₂, N₂, ho₂, hk₂, hK₂⟩
      refine ⟨n + 1 - (i + 1), by omega, LoopY.mk (s₂ := s₂) (i := i + 1) hle5 (fun z => hg₂ (hg z)) ?_ F₂ N₂ ho₂ hk₂ hK₂ hlt⟩
      refine W.frame _ _ _ hst₁ fun b hb o e => ?_
      rcases List.mem_cons.mp hb with rfl | hb
      · have : oI₁ = o := Option.some.inj (hoI₁.symm.trans e)
        rw [← this]
        exact (N₂ _ (.head _)).1
      · obtain ⟨q, hq, rfl⟩ := List.mem_map.mp hb
        have e1 := (N₁' q (.tail _ (hk' q hq))).1
        have : q.2 = o := Option.some.inj (e1.symm.trans e)
        rw [← this]
        exact (N₂ q (.tail _ (hk₂ q hq))).1
    cases f with
    | next => exact fin4 h₄
    | cont => exact fin4 h₄
    | brk => exact h₄ hle5
    | ret v => exact h₄ hle5
  · have hin : i = n := by omega
    subst hin
    refine toks_useQ (W.done _ _ _ hst' fun h₁ tk₁ hk₁ hle => wpAny_execs_nil ?_)
    obtain ⟨F₁, N₁⟩ := next h₁ hk₁
    exact fin h₀' m' news' h₁ tk₁ gs' hK (Nat.le_trans htk hle) hg F₁ N₁
end Mine
end
section
example : Mine.Stp True := by first | (walk1; fail) | (w_top off; exact Mine.Stp.to trivial)
open PySem PySem.W PySem.Spec PySem.Calls PyProof.Rows Mine
set_option maxRecDepth 100000
set_option maxHeartbeats 4000000
namespace Mine

local macro_rules | `(tactic| walk_at "execs cons") => `(tactic| walk_at "gt")
local macro_rules | `(tactic| walk_at "execs nil") => `(tactic| walk_at "gt")
local macro_rules | `(tactic| walk_at "exec For Name Name cons nil") => `(tactic| (refine Stp.of ?_))
local macro_rules | `(tactic| walk_at "call ref") => `(tactic| (k_here; with_reducible refine at_c 148 ?_; refine Stp.of ?_))
inductive RedK (rs : List Int) (ps : Array Value) (lR it : Nat) (vR : List Value) (nR : Nat) (news : List (Addr × Obj)) (fs : List Addr) (g0 : Heap) : Nat → Heap → (Str → Option Value) → List (Addr × Obj) → Prop
  | mk {i : Nat} {g2 : Heap} (u : Option Value) (m0 : Str → Option Value) (lV : Nat) (vV : List Value) (nV : Nat) (ps2 : Array Value) (hvV : StrsAre vV (((rs.take i).map rlOf).foldl ruledF [])) (hlen : (((rs.take i).map rlOf).foldl ruledF []).length ≤ 8 * i) (hps : TabOk ps2.toList)
      (Rb : Reb fs g0 g2) (h1 : @Ne Nat lV 110) (h2 : @Ne Nat lV it) (h3 : ∀ p ∈ (110, tabObj ps) :: news, @LT.lt Nat _ p.1 lV) :
    RedK rs ps lR it vR nR news fs g0 i g2 (fun y => if y = Str.ofString "element" then u else if y = Str.ofString "value" then some (Value.ref lV) else if y = Str.ofString "function" then some (Value.ref 148) else m0 y) ((110, tabObj ps2) :: (lV, W.listOf vV.toArray nV) :: (lR, W.listOf vR.toArray nR) :: news)
theorem reduce_u (w : World) (news : List (Addr × Obj)) (ps : Array Value) (hps : TabOk ps.toList) (lR : Nat) (vR : List Value) (nR : Nat) (rs : List Int) (hR : IntsAre vR rs) (hRl : rs.length ≤ 20) (lS nS : Nat)
   (p : Program) (loose : List Str) (mean : ExcName → Option Value) (mg mb : Str → Option Value) (dp un : Nat) (gd : Option (List Code)) (cn : Str) (cs : Scope) (a : Addr) (ccd : Value) (cl : List (Str × Addr)) (outer : List Env) (A₀ : Around) (base h₀ : Heap) (L : Addr) (m : Str → Option Value) (s : Shared) (Q E : Value → Shared → Prop)
    (C : Cx w p loose mean mg mb cs A₀ base outer h₀) (F : Fr h₀ L s.heap m) (CH : CodeHd base 114 110)
    (N : News h₀ L s.heap ((110, tabObj ps) :: (lS, W.listOf #[] nS) :: (lR, W.listOf vR.toArray nR) :: news)) (hn110 : ∀ p ∈ (lS, W.listOf #[] nS) :: (lR, W.listOf vR.toArray nR) :: news, p.1 ≠ 110)
    (hSlt : ∀ p ∈ (110, tabObj ps) :: news, @LT.lt Nat _ p.1 lS)
    (hdp : dp + 60 < recursionLimit) (hu : un + 400 < cLine) (h0 : 0 < s.toks)
    (hret : ∀ (l : Nat) vs n ps' h₀₂ h' tk' gs', (AllBare s.gens → AllBare gs') → StrsAre vs ((rs.map rlOf).foldl ruledF []) → TabOk ps'.toList → (∀ p ∈ ((110, tabObj ps) :: news), p.1 < l) → Reb (frs outer) h₀ h₀₂ → Fr h₀₂ L h' m →
      News h₀₂ L h' ((l, W.listOf vs.toArray n) :: (110, tabObj ps') :: news) → Q (.ref l) { s with heap := h', gens := gs', toks := tk' }) :
    wpAny (model PR w) (ktrTop dp un gd cn cs L a ccd cl outer) (call (.ref 47) [.ref 148, .ref lR, .ref lS]) Q E s := by
  have B := C.B
  have hk := C.hk
  have T := C.T
  have X := C.X
  have XB := C.XB
  unfold PR
  revert X XB; k_fill; intro X XB
  refine wpAny_call ?_
  have XS := X.keeps F.keep
  k_dflt walk_at "u_enter"
  clear XS
  rename Below (ktrTop dp un gd cn cs L a ccd cl outer) _ _ _ => BG
  refine gen_toks (lo := 1) (tk0 := s.toks + 3) ⟨by omega, by omega⟩ (show 1 < s.toks + 3 by omega) ?_
  intro tk hTl
  k_steps
  refine Stp.to ?_
  rename_i it hA l1I hB tkA hTA _ _ _ _ _ _ hC F9 N9 tkZ hTZ
  rename_i g0 L1 h1 FG1 XG TG _ _ _ _ _ _ _ _ _ _
  have CI : ∀ cs' : Scope, cs'.kind = .function → Cx w p loose mean mg mb cs' (ktrTop dp un gd cn cs L a ccd cl outer) base (envX cn cs L a ccd cl :: outer) g0 := fun _ hc => ⟨BG, XB, C.TB, hc⟩
  refine for_walksY (L := L1) (keep := [(lR, W.listOf vR.toArray nR)]) (n := vR.toArray.size) rfl
    (RedK rs ps lR it vR nR news (L :: frs outer) g0) ?_
  k_steps
  refine wpAny_pyIter_listiter (it := it) (l := lR) (i := 0) ⟨_, (N9 _ (.head _)).1, rfl, rfl⟩ ?_
  obtain ⟨u0, m0, F8⟩ := fr3 (a := Str.ofString "element") (b := Str.ofString "value") (c := Str.ofString "function") F9 rfl rfl
  have hnn : ∀ p ∈ news, p.1 ≠ 110 := fun q hq => hn110 q (.tail _ (.tail _ hq))
  have hne1 : @Ne Nat lR it := by omega
  have hne2 : @Ne Nat lS it := by omega
  have hS110 : @Ne Nat lS 110 := hn110 _ (.head _)
  have hR110 : @Ne Nat lR 110 := hn110 _ (.tail _ (.head _))
  refine ⟨it, g0, _, (110, tabObj ps) :: (lS, W.listOf #[] nS) :: (lR, W.listOf vR.toArray nR) :: news, itObj lR (0 : Nat), _, (fun i v => vR.toArray[i]? = some v), (fun i h => h.IsListIter it lR i ∧ h.IsList lR vR.toArray), rfl, rfl, Walks.list rfl it lR hne1 vR.toArray, (fun i h st => by obtain ⟨o, e, _⟩ := st.1; exact ⟨o, e⟩), ⟨⟨_, (N9 _ (.head _)).1, rfl, rfl⟩, ⟨_, (N9 _ (.tail _ (.tail _ (.tail _ (.head _))))).1, rfl, _, rfl⟩⟩, F8, N9, ?_, ?_,
    .mk u0 m0 lS [] nS ps .nil (by simp) hps (Reb.refl _ _) hS110 hne2 hSlt, ?_, ?_⟩
  · k_all
  · exact fun q hq => by rw [List.mem_singleton.mp hq]; exact .tail _ (.tail _ (.head _))
  · intro i v g2 m2 nw2 oI2 h2 tk2 gs2 hi hP _ hK hle hg F2 N2 hoff hkeep E2
    obtain ⟨u, m9, lV, vV, nV, ps2, hvV, hlen, hps2, Rb, hV1, hV2, hV3⟩ := hK
    obtain ⟨r, tr, rfl, hr⟩ := IntsAre.at hR i v (by simpa using hP)
    have hi9 : i < 20 := by rw [List.size_toArray, IntsAre.length hR] at hi; omega
    have C2 := fun cs' hc => (CI cs' hc).reb Rb
    have X2 := (C2 cs hk).X
    have T2 := (C2 cs hk).T
    have B2 := (C2 cs hk).B
    clear F9 N9 F8
    dsimp only at hle
    k_steps
    refine Stp.to ?_
    rename Fr _ _ _ _ => F5
    rename News _ _ _ _ => N5
    refine' ruled_u w ((it, oI2) :: (lR, W.listOf vR.toArray nR) :: news) ps2 hps2 lV vV nV _ hvV ?hSl r tr p loose mean mg mb (dp + 1) _ _ _ _ _ _ [] (envX cn cs L a ccd cl :: outer) (ktrTop dp un gd cn cs L a ccd cl outer) base g2 L1 _ _ _ _ ⟨B2, XB, C.TB, rfl⟩ F5 CH
      (List.forall_mem_cons.mpr ⟨N5 _ (.tail _ (.head _)), List.forall_mem_cons.mpr ⟨N5 _ (.tail _ (.tail _ (.head _))), List.forall_mem_cons.mpr ⟨N5 _ (.head _), fun q hq => N5 q (.tail _ (.tail _ (.tail _ hq)))⟩⟩⟩) ?h110 ?hdp ?hu ?h0 ?_
    case hSl => omega
    case h110 => k_all
    case hdp => ((try dsimp only); omega)
    case hu => ((try dsimp only); omega)
    case h0 => ((try dsimp only); omega)
    intro l vs n ps3 g3 h3 tk3 gs3 hg3 hvs hps3 hlt Rb3 F3 N3
    have C3 := fun cs' hc => (C2 cs' hc).reb Rb3
    have X3 := (C3 cs hk).X
    have T3 := (C3 cs hk).T
    have B3 := (C3 cs hk).B
    clear F5 N5
    k_steps
    rename Fr _ _ _ _ => F7
    rename News _ _ _ _ => N7
    obtain ⟨u7, m7, F8⟩ := fr3 (a := Str.ofString "element") (b := Str.ofString "value") (c := Str.ofString "function") F7 rfl rfl
    have hli : @Ne Nat l it := Nat.ne_of_gt (hlt (it, oI2) (.tail _ (.tail _ (.head _))))
    have hl110 : @Ne Nat l 110 := Nat.ne_of_gt (hlt (110, tabObj ps2) (.head _))
    have hto : (rs.take (i + 1)).map rlOf = (rs.take i).map rlOf ++ [rlOf r] := by rw [List.take_add_one, hr]; simp
    have hfo : ((rs.take (i + 1)).map rlOf).foldl ruledF [] = ruledF (((rs.take i).map rlOf).foldl ruledF []) (rlOf r) := by rw [hto, List.foldl_append]; rfl
    have hrl := ruled_len (((rs.take i).map rlOf).foldl ruledF []) (rlOf r)
    refine (show TurnEnd _ _ _ _ _ _ _ from TurnEnd.intro ((110, tabObj ps3) :: (l, W.listOf vs.toArray n) :: (lR, W.listOf vR.toArray nR) :: news) hg3 F8 N7 (.tail _ (.tail _ (.tail _ (.head _)))) ?_ ?_ ?_ (.mk u7 m7 l vs n ps3 (by rw [hfo]; exact hvs) (by rw [hfo]; omega) hps3 (Rb.trans Rb3) hl110 hli ?_))
    · exact List.forall_mem_cons.mpr ⟨.tail _ (.head _), List.forall_mem_cons.mpr ⟨.head _, List.forall_mem_cons.mpr ⟨.tail _ (.tail _ (.tail _ (.tail _ (.head _)))), fun q hq => .tail _ (.tail _ (.tail _ (.tail _ (.tail _ hq))))⟩⟩⟩
    · k_all
    · exact fun q hq => by rw [List.mem_singleton.mp hq]; exact .tail _ (.tail _ (.head _))
    · exact List.forall_mem_cons.mpr ⟨hlt (110, tabObj ps2) (.head _), fun q hq => hlt q (.tail _ (.tail _ (.tail _ (.tail _ hq))))⟩
  · intro g2 m2 nw2 h2 tk2 gs2 hK hle hg F2 N2
    obtain ⟨u, m9, lV, vV, nV, ps2, hvV, hlen, hps2, Rb, hV1, hV2, hV3⟩ := hK
    have C2 := fun cs' hc => (CI cs' hc).reb Rb
    have X2 := (C2 cs hk).X
    have T2 := (C2 cs hk).T
    have B2 := (C2 cs hk).B
    clear F9 N9 F8
    dsimp only at hle
    k_steps
    refine Stp.to ?_
    rename Fr _ _ _ _ => F5
    rename News _ _ _ _ => N5
    refine (show LeaveU outer h₀ L m _ _ _ _ from ⟨g2, _, _, _, Rb, F5, N5, fun h₀₃ R5 F6 N6 => ?_⟩)
    show Q (.ref lV) _
    have htk : rs.take vR.toArray.size = rs := List.take_of_length_le (by rw [List.size_toArray, IntsAre.length hR]; exact Nat.le_refl _)
    rw [htk] at hvV
    refine hret lV vV nV ps2 h₀₃ _ _ gs2 hg hvV hps2 ?_ R5 F6 ?_
    · exact hV3
    · exact List.forall_mem_cons.mpr ⟨N6 _ (.tail _ (.head _)), List.forall_mem_cons.mpr ⟨N6 _ (.head _), fun q hq => N6 q (.tail _ (.tail _ (.tail _ hq)))⟩⟩
end Mine
end
section
open PySem PySem.W PySem.Spec PySem.Calls PyProof.Rows Mine
set_option maxRecDepth 100000
set_option maxHeartbeats 4000000
namespace Mine
noncomputable def toldB (rs : List Rl) (x : Str) : Bool := decide ((meantF (nameL.idxOf x) rs).getLast? ≠ some 0)
theorem index_N {prog : Program} {w : World} {A : Around} {E : Value → Shared → Prop} {s : Shared} {h₀ : Heap} {L : Addr} {news : List (Addr × Obj)} {l : Addr} {vs : List Value} {n : Nat} {x : Str} {t : Tok} {Q : Value → Shared → Prop} (N : News h₀ L s.heap news) (ma : (l, W.listOf vs.toArray n) ∈ news) (hv : StrsAre vs nameL) (hx : x ∈ nameL)
    (h : Q (.int ((nameL.idxOf x : Nat) : Int) s.toks) { s with toks := s.toks + 1 }) : wpAny (model prog w) A (call (.builtin "list.index") [.ref l, .str x t]) Q E s := by
  have hlen := StrsAre.length hv
  have hj : nameL.idxOf x < nameL.length := List.idxOf_lt_length_iff.mpr hx
  have hn8 : nameL.length = 8 := rfl
  have at_ : ∀ i (hi : i < vs.toArray.size), ∃ y u, vs.toArray[i] = .str y u ∧ nameL[i]? = some y := by
    intro i hi
    have hi' : i < vs.length := by simpa using hi
    obtain ⟨y, u, e, hy⟩ := hv.item i vs[i] (List.getElem?_eq_getElem hi')
    exact ⟨y, u, by simpa using e, hy⟩
  refine call_meets PySem.F.slot_list_index ⟨_, (N _ ma).1, rfl⟩ PySem.F.entry_list_index (PySem.F.args_list_index_2 _ _)
    (MeetsSeq.list_index l vs.toArray n (.str x t) (eqS x) (fun y hy => eqS_gives hv x t y (by simpa using hy)) (nameL.idxOf x) (by simpa [hlen] using hj) (by omega) ?_ ?_) ⟨(N _ ma).1, h⟩
  · obtain ⟨y, u, e, hy⟩ := at_ (nameL.idxOf x) (by simpa [hlen] using hj)
    rw [e]
    have : y = x := by
      rw [List.getElem?_eq_getElem hj, List.getElem_idxOf hj] at hy
      exact (Option.some.inj hy).symm
    subst this
    simp [eqS]
  · intro i hi hlt
    obtain ⟨y, u, e, hy⟩ := at_ i hi
    rw [e]
    have hne : y ≠ x := by
      intro q
      subst q
      have hi2 : i < nameL.length := by omega
      rw [List.getElem?_eq_getElem hi2] at hy
      have q3 := List.not_of_lt_findIdx (p := (· == y)) (xs := nameL) (i := i) (by exact hlt)
      rw [Option.some.inj hy] at q3
      simp at q3
    show (y.cps.toList == x.cps.toList) = false
    rw [str_beq]
    simpa using hne
theorem idx_lt : ∀ x ∈ nameL, nameL.idxOf x < 8 := by decide +kernel
theorem mod_two (r : Int) : r.fmod 2 = if decide (r.fmod 2 = 1) = true then 1 else 0 := by
  have : r.fmod 2 = 0 ∨ r.fmod 2 = 1 := by
    rw [Int.fmod_eq_emod_of_nonneg _ (by omega)]; omega
  rcases this with q | q <;> simp [q]
theorem meant_next {i j : Nat} {rs : List Int} {r : Int} (h : rs[j]? = some r) : meantF i ((rs.take (j + 1)).map rlOf) = meantF i ((rs.take j).map rlOf) ++ (if i ∈ idxK (rlOf r).1 then [r.fmod 2] else []) := by
  rw [List.take_add_one, h]
  unfold meantF
  simp only [Option.toList_some, List.map_append, List.filter_append, List.map_cons, List.map_nil]
  congr 1
  by_cases q : i ∈ idxK (rlOf r).1
  · rw [if_pos q, List.filter_cons, if_pos (by simpa using q)]
    simp only [List.filter_nil, List.map_cons, List.map_nil]
    rw [mod_two r]; rfl
  · rw [if_neg q, List.filter_cons, if_neg (by simpa using q)]; rfl
theorem last_one (ns : List Int) : (ns.drop (ns.length - 1) = [0]) ↔ ns.getLast? = some 0 := by
  rcases List.eq_nil_or_concat ns with rfl | ⟨q, a, rfl⟩
  · simp
  · simp
end Mine
namespace Mine
theorem fr4 {h₀ h : Heap} {L : Addr} {m : Str → Option Value} {a b c d : Str} {v3 v4 : Option Value} (F : Fr h₀ L h m) (h3 : m c = v3) (h4 : m d = v4) :
    ∃ (u1 u2 : Option Value) (m₀ : Str → Option Value), Fr h₀ L h (fun y => if y = a then u1 else if y = b then u2 else if y = c then v3 else if y = d then v4 else m₀ y) := by
  refine ⟨m a, m b, m, ?_⟩
  have e : (fun y => if y = a then m a else if y = b then m b else if y = c then v3 else if y = d then v4 else m y) = m := by
    funext y
    by_cases q1 : y = a
    · subst q1; simp
    · by_cases q2 : y = b
      · subst q2; simp [q1]
      · by_cases q3 : y = c
        · subst q3; simp [q1, q2, h3]
        · by_cases q4 : y = d
          · subst q4; simp [q1, q2, q3, h4]
          · simp [q1, q2, q3, q4]
  rw [e]; exact F
end Mine
namespace Mine
theorem meant_len (i : Nat) (rs : List Rl) : (meantF i rs).length ≤ rs.length := by
  unfold meantF
  rw [List.length_map]
  exact List.length_filter_le _ _
end Mine
namespace Mine
theorem intsAre_snoc {vs : List Value} {ns : List Int} {n : Int} {t : Tok} (h : IntsAre vs ns) : IntsAre (vs ++ [.int n t]) (ns ++ [n]) := by
  induction h with
  | nil => exact .cons _ t .nil
  | cons k u _ ih => exact .cons k u ih
end Mine
end
section
example : Mine.Stp True := by first | (walk1; fail) | (w_top off; exact Mine.Stp.to trivial)
open PySem PySem.W PySem.Spec PySem.Calls PyProof.Rows Mine
set_option maxRecDepth 100000
set_option maxHeartbeats 4000000
namespace Mine
local macro_rules | `(tactic| walk_at "call builtin:list.index") => `(tactic| (k_here; (with_reducible show wpAny _ _ (call (Value.builtin _) [Value.ref _, Value.str _ _]) _ _ _); k_dflt (refine index_N (by k_asm) (by k_mem) (by assumption) (by assumption) ?_)))
local macro_rules | `(tactic| walk_at "subscriptTail") => `(tactic| (k_here; with_reducible refine at_stn 1 ?_; k_dflt (refine item_T1 (by k_asm) (by k_mem) ?_ (by with_unfolding_all rfl))))
local macro_rules | `(tactic| walk_at "exec For Name Name cons nil") => `(tactic| (refine Stp.of ?_))
inductive LeftI (L' lL lM lR : Nat) (vM vR : List Value) (nM nR : Nat) (rs : List Int) (xM : List Str) (news : List (Addr × Obj)) : Nat → (Str → Option Value) → List (Addr × Obj) → Prop
  | mk {i : Nat} (u1 u2 : Option Value) (m9 : Str → Option Value) (oP' : Obj) (xP : Option Value) (vl : List Value) (nl : Nat) (dP : oP'.data = .cell xP) (hvl : StrsAre vl ((xM.take i).filter (toldB (rs.map rlOf)))) :
    LeftI L' lL lM lR vM vR nM nR rs xM news i (fun y => if y = Str.ofString "name" then u1 else if y = Str.ofString "meant" then u2 else if y = Str.ofString "left" then some (Value.ref lL) else if y = Str.ofString "rules" then some (Value.ref lR) else m9 y)
      ((lL, W.listOf vl.toArray nl) :: (L' + 1, oP') :: (lM, W.listOf vM.toArray nM) :: (lR, W.listOf vR.toArray nR) :: news)
theorem law_left (w : World) (news : List (Addr × Obj)) (lM : Nat) (vM : List Value) (nM : Nat) (xM : List Str) (hM : StrsAre vM xM) (hMn : ∀ x ∈ xM, x ∈ nameL) (hMl : xM.length ≤ 8) (lR : Nat) (vR : List Value) (nR : Nat) (rs : List Int) (hR : IntsAre vR rs) (hRl : rs.length ≤ 20)
   (p : Program) (loose : List Str) (mean : ExcName → Option Value) (mg mb : Str → Option Value) (dp un : Nat) (gd : Option (List Code)) (cn : Str) (cs : Scope) (a : Addr) (ccd : Value) (cl : List (Str × Addr)) (outer : List Env) (A₀ : Around) (base h₀ : Heap) (L : Addr) (m : Str → Option Value) (s : Shared) (Q E : Value → Shared → Prop)
    (B : Below A₀ base outer h₀) (F : Fr h₀ L s.heap m) (X : (hd.heap_1 w.params).In h₀) (N : News h₀ L s.heap ((lM, W.listOf vM.toArray nM) :: (lR, W.listOf vR.toArray nR) :: news))
    (T : Top p loose mean mg mb h₀) (hk : cs.kind = .function) (hdp : dp + 28 < recursionLimit) (hu : un + 264 < cLine)
    (hret : ∀ (l : Nat) vs n h' tk', StrsAre vs (xM.filter (toldB (rs.map rlOf))) → (∀ q ∈ (lM, W.listOf vM.toArray nM) :: (lR, W.listOf vR.toArray nR) :: news, @LT.lt Nat _ q.1 l) → Fr h₀ L h' m →
      News h₀ L h' ((l, W.listOf vs.toArray n) :: (lM, W.listOf vM.toArray nM) :: (lR, W.listOf vR.toArray nR) :: news) → Q (.ref l) { s with heap := h', toks := tk' }) :
    wpAny (model PR w) (ktrTop dp un gd cn cs L a ccd cl outer) (call (.ref 167) [.ref lM, .ref lR]) Q E s := by
  unfold PR
  revert X; k_fill; intro X
  refine wpAny_call ?_
  k_dflt (refine' code_defC ?k1 ?k2 ?k3 ?k4 ?k5 ?kA ?kF ?kK ?k6 ?k7 ?k8 ?k9 ?kB ?kD ?_ ?c2 ?c3 ?c4; (case kA => exact rfl); (case kF => exact rfl); (case kK => assumption); (case k1 => k_asm); (case k2 => k_asm); (case k3 => k_asm); (case k4 => k_asm); (case k5 => k_asm); (case k6 => k_is); (case k7 => k_is); (case k8 => ktr_room); (case k9 => exact BindsTo.of_eq rfl); (case kB => exact rfl); (case kD => decide +kernel); (case c2 => exact rfl); (case c3 => exact rfl); (case c4 => exact rfl); k_whole)
  intro g' L' h' tk' cells' FG' F' N' Y' B' X' T' l1
  k_lt l1
  k_cells Y'
  try simp only [List.cons_append, List.nil_append] at N'
  try dsimp only
  k_steps
  refine Stp.to ?_
  rename_i oP dP lL hB l1L hC F9 N9
  refine For_turns F9 ?_
  k_steps
  obtain ⟨u1, u2, m0, F8⟩ := fr4 (a := Str.ofString "name") (b := Str.ofString "meant") (c := Str.ofString "left") (d := Str.ofString "rules") (v3 := some (Value.ref lL)) (v4 := some (Value.ref lR)) F9 rfl rfl
  clear F9
  refine iter_listTurns (by rfl) F8 N9 (.tail _ (.tail _ (.head _))) rfl rfl fun I lI => ?_
  refine items_ind (I := LeftI L' lL lM lR vM vR nM nR rs xM news) ?_ ?_ ?_
  · exact .mk u1 u2 m0 oP _ [] 0 dP .nil
  · intro i a2 r2 m2 nw2 hi hI hrest
    have hex : ∃ v, a2 = .val v ∧ vM[i]? = some v := by
      have hi2 := hi
      rw [List.getElem?_map] at hi2
      obtain ⟨v, e1, e⟩ := Option.map_eq_some_iff.mp hi2
      exact ⟨v, e.symm, e1⟩
    obtain ⟨v, rfl, hv⟩ := hex
    obtain ⟨x, tx, rfl, hx⟩ := hM.item i v hv
    have hxn : x ∈ nameL := hMn x (List.mem_of_getElem? hx)
    have hxi := idx_lt x hxn
    obtain ⟨u1, u2, m9, oP', xP, vl, nl, dP', hvl⟩ := hI
    clear N9 F8
    refine ItemsRest.val fun h3 tk3 F3 => AllObj.cons fun oI hoI => AllObj.nil fun N3 => ?_
    change Fr g' L' h3 _ at F3
    change News g' L' h3 _ at N3
    k_lt lI
    try simp only [List.cons_append, List.nil_append] at N3
    k_steps
    refine Stp.to ?_
    rename_i lN vN nN hD tkD hvN hltN hE oQ F7 N7 dQ
    have hvl9 := IntsAre.length hR
    refine LCt.CompSrcT.ledger (by rfl) F7 N7 (.tail _ (.tail _ (.tail _ (.tail _ (.tail _ (.head _)))))) (by rw [List.size_toArray, hvl9]; exact Nat.le_trans hRl (by decide +kernel)) fun g9 => ?_
    refine comp_ind (I := fun i9 ys nw => nw = ((lN, W.listOf vN.toArray nN) :: (I, oI) :: (lL, W.listOf vl.toArray nl) :: (L' + 1, oQ) :: (lM, W.listOf vM.toArray nM) :: (lR, W.listOf vR.toArray nR) :: news) ∧
      IntsAre ys (meantF (nameL.idxOf x) ((rs.take i9).map rlOf))) ⟨rfl, .nil⟩ ?_ ?_
    · intro k9 i9 ys nw9 hi9 hI9 hrest9
      obtain ⟨rfl, hys⟩ := hI9
      refine LCt.CompRestT.succ ?_
      intro v9 I3 oI3 C3 oC3 D3 mC h9 tk9 E9 hv9 hC9 hx9 F9 N9 off9 ne9
      obtain ⟨r, tr, rfl, hr⟩ := IntsAre.at hR i9 v9 (by simpa using hv9)
      obtain ⟨k, hk7, hkr⟩ := rule_k r
      have hmn := meant_next (i := nameL.idxOf x) hr
      rw [rlOf_eq hkr] at hmn
      clear F7 N7
      cases hb9 : decide (nameL.idxOf x ∈ idxK k) with
      | true =>
        rw [if_pos (by simpa using hb9)] at hmn
        k_steps
        rename News _ _ _ _ => N8
        rename Fr _ _ _ _ => F8
        exact LCg.CompEnd.intro F8 N8 _ (fun p hp => .tail _ (.tail _ (.tail _ hp))) off9 (.inr ⟨_, .tail _ (.tail _ (.tail _ (.tail _ (.tail _ (.head _))))), rfl, _, rfl⟩) (hrest9 _ _ ⟨rfl, by rw [hmn]; exact intsAre_snoc hys⟩)
      | false =>
        rw [if_neg (by simpa using hb9), List.append_nil] at hmn
        k_steps
        rename News _ _ _ _ => N8
        rename Fr _ _ _ _ => F8
        exact LCg.CompEnd.intro F8 N8 _ (fun p hp => .tail _ (.tail _ (.tail _ hp))) off9 (.inr ⟨_, .tail _ (.tail _ (.tail _ (.tail _ (.tail _ (.head _))))), rfl, _, rfl⟩) (hrest9 _ _ ⟨rfl, by rw [hmn]; exact hys⟩)
    · intro ys nw9 hI9
      obtain ⟨rfl, hys⟩ := hI9
      intro D9 hA9 tkA9 FA NA oA
      have hlen9 : rs.take vR.toArray.size = rs := List.take_of_length_le (by rw [List.size_toArray, hvl9]; exact Nat.le_refl _)
      rw [hlen9] at hys
      have hml := meant_len (nameL.idxOf x) (rs.map rlOf)
      rw [List.length_map] at hml
      have hfn := filter_next (f := toldB (rs.map rlOf)) hx
      have htd : toldB (rs.map rlOf) x = decide ((meantF (nameL.idxOf x) (rs.map rlOf)).getLast? ≠ some 0) := rfl
      generalize meantF (nameL.idxOf x) (rs.map rlOf) = ms at hys hml htd
      obtain ⟨e1, e2, e3, e4, e5, e6, _⟩ := oA
      clear F7 N7
      k_steps
      · rename (List.drop _ _ = [0]) => hd0
        rename News _ _ _ _ => N8
        rename Fr _ _ _ _ => F9
        obtain ⟨w1, w2, m5, F8⟩ := fr4 (a := Str.ofString "name") (b := Str.ofString "meant") (c := Str.ofString "left") (d := Str.ofString "rules") (v3 := some (Value.ref lL)) (v4 := some (Value.ref lR)) F9 rfl rfl
        rw [htd, decide_eq_false (by rw [last_one] at hd0; simpa using hd0), if_neg (by simp), List.append_nil] at hfn
        refine unr_end1 ((lL, W.listOf vl.toArray nl) :: (L' + 1, oQ) :: (lM, W.listOf vM.toArray nM) :: (lR, W.listOf vR.toArray nR) :: news) F8 N8 ?_ ?_ ?_ ?_ ?_
        · k_mem
        · with_reducible (repeat (first | exact sub_refl | refine sub_cons ?_ | refine sub_skip ?_))
        · k_all
        · k_mem
        · exact hrest _ _ (.mk _ _ _ oQ _ vl nl dQ (by rw [hfn]; exact hvl))
      · rename (¬ List.drop _ _ = [0]) => hd0
        rename News _ _ _ _ => N8
        rename Fr _ _ _ _ => F9
        obtain ⟨w1, w2, m5, F8⟩ := fr4 (a := Str.ofString "name") (b := Str.ofString "meant") (c := Str.ofString "left") (d := Str.ofString "rules") (v3 := some (Value.ref lL)) (v4 := some (Value.ref lR)) F9 rfl rfl
        rw [htd, decide_eq_true (by rw [last_one] at hd0; exact hd0), if_pos rfl] at hfn
        rw [List.push_toArray] at N8
        refine unr_end1 ((lL, W.listOf (vl ++ [Value.str x tx]).toArray (nl + 1)) :: (L' + 1, oQ) :: (lM, W.listOf vM.toArray nM) :: (lR, W.listOf vR.toArray nR) :: news) F8 N8 ?_ ?_ ?_ ?_ ?_
        · k_mem
        · with_reducible (repeat (first | exact sub_refl | refine sub_cons ?_ | refine sub_skip ?_))
        · k_all
        · k_mem
        · exact hrest _ _ (.mk _ _ _ oQ _ (vl ++ [Value.str x tx]) (nl + 1) dQ (by rw [hfn]; exact strsAre_snoc hvl))
  · intro m5 nw5 h6 tk6 hJ F6 N6
    obtain ⟨u1, u2, m9, oP', xP, vl, nl, dP', hvl⟩ := hJ
    change Fr g' L' h6 _ at F6
    change News g' L' h6 _ at N6
    have hlp : xM.take (List.map Itm.val vM).length = xM := List.take_of_length_le (by rw [List.length_map, StrsAre.length hM]; exact Nat.le_refl _)
    rw [hlp] at hvl
    k_steps
    rename Fr _ _ _ _ => kF
    rename News _ _ _ _ => kN
    refine hret lL vl nl _ _ hvl (fun q hq => ?_) kF (fun q hq => kN q ?_)
    · rcases List.mem_cons.mp hq with rfl | hq
      · exact l1L.2.1
      · rcases List.mem_cons.mp hq with rfl | hq
        · exact l1L.2.2.1
        · exact allLt_lt l1L.2.2.2 q hq
    · rcases List.mem_cons.mp hq with rfl | hq
      · exact .head _
      · exact .tail _ (.tail _ hq)
end Mine
end
section
open PySem PySem.W PySem.Spec PySem.Calls PyProof.Rows Mine PySem.SeqAt PyProof.V
set_option maxRecDepth 100000
set_option maxHeartbeats 4000000
namespace Mine
section
variable {prog : Program} {w : World} {A : Around} {E : Value → Shared → Prop} {s : Shared} {h₀ : Heap} {L : Addr} {m : Str → Option Value} {news : List (Addr × Obj)} {value slice : PySem.Expr} {l : Addr}
theorem pick_from {vs : List Value} {x : Int} (h : 0 ≤ x) : (slicePick vs.toArray (some x) none none).toList = vs.drop x.toNat := by
  have e : sliceBounds (some x) none none vs.toArray.size = (((min x.toNat vs.toArray.size : Nat) : Int), ((vs.toArray.size : Nat) : Int), 1) := by
    simp only [sliceBounds, Option.getD_none, show (1 : Int) > 0 by decide, if_true, if_neg (show ¬ (x < 0) by omega)]
    congr 1
    omega
  rw [kmk_pick_nat _ e]
  show (vs.drop (min x.toNat vs.toArray.size)).take (vs.toArray.size - min x.toNat vs.toArray.size) = _
  rw [List.size_toArray, kmk_drop_min, List.take_of_length_le (by rw [List.length_drop]; omega)]
theorem pick_upto {vs : List Value} {y : Int} (h : 0 ≤ y) : (slicePick vs.toArray none (some y) none).toList = vs.take y.toNat := by
  have e : sliceBounds none (some y) none vs.toArray.size = (((0 : Nat) : Int), ((min y.toNat vs.toArray.size : Nat) : Int), 1) := by
    simp only [sliceBounds, Option.getD_none, show (1 : Int) > 0 by decide, if_true, if_neg (show ¬ (y < 0) by omega)]
    congr 1
    congr 1
    omega
  rw [kmk_pick_nat _ e]
  show (vs.drop 0).take (min y.toNat vs.toArray.size - 0) = _
  rw [List.drop_zero, Nat.sub_zero, List.size_toArray, kmk_take_min]
theorem slice_any {items : Array Value} {vl vu : Value} {lo hi : Option Int} {zs : List Value} {Q : Value → Shared → Prop} (F : Fr h₀ L s.heap m) (N : News h₀ L s.heap news) (hl : s.heap.IsList l items) (pl : IsPart vl lo) (pu : IsPart vu hi) (e : (slicePick items lo hi none).toList = zs)
    (h : ∀ D h', Fr h₀ L h' m → News h₀ L h' ((D, W.listOf zs.toArray 0) :: news) → (∀ p ∈ news, p.1 < D) → Q (.ref D) { s with heap := h' })
    (hs : subscripted slice false (.ref l) (.ref s.heap.objs.size) = operate [.ref s.heap.objs.size, .ref l] (getItem (.ref l) (.ref s.heap.objs.size))) (hz : items.size ≤ sizeLine) :
    wpAny (model prog w) A (subscriptTail value slice (.ref l) (.ref s.heap.objs.size)) Q E { s with heap := s.heap.push { cls := .type "slice", data := .fields #[vl, vu, .none] } } := by
  refine tail_any (Heap.IsList.typeIs (s := { s with heap := s.heap.push { cls := .type "slice", data := .fields #[vl, vu, .none] } }) (hl.push _)) slot_list_getitem.lookup
    (wpAny_getItem_list_slice (hl.push _) (Heap.IsSliceOf.new ..) pl pu .none (by simp) ?_ hz) hs
  have N1 := News.push (F.push { cls := .type "slice", data := .fields #[vl, vu, .none] }) (N.grown fun _ _ e => Heap.get?_push_of_some _ e) { cls := .type "list", data := .seq (slicePick items lo hi none) }
  have hp := Heap.size_push s.heap { cls := .type "slice", data := .fields #[vl, vu, .none] }
  rw [hp] at N1
  show Q (.ref (s.heap.push _).objs.size) _
  rw [hp]
  refine h _ _ ((F.push _).push _) ?_ fun p hp => Nat.lt_succ_of_lt (Heap.lt_size (N p hp).1)
  rw [← e, Array.toArray_toList]
  exact N1
theorem slice_from_N {vs : List Value} {n : Nat} {x : Int} {tx : Tok} {Q : Value → Shared → Prop} (F : Fr h₀ L s.heap m) (N : News h₀ L s.heap news) (ma : (l, W.listOf vs.toArray n) ∈ news) (hx : 0 ≤ x) (hz : vs.length ≤ 1000)
    (h : ∀ D h', Fr h₀ L h' m → News h₀ L h' ((D, W.listOf (vs.drop x.toNat).toArray 0) :: news) → (∀ p ∈ news, p.1 < D) → Q (.ref D) { s with heap := h' })
    (hs : subscripted slice false (.ref l) (.ref s.heap.objs.size) = operate [.ref s.heap.objs.size, .ref l] (getItem (.ref l) (.ref s.heap.objs.size))) :
    wpAny (model prog w) A (subscriptTail value slice (.ref l) (.ref s.heap.objs.size)) Q E { s with heap := s.heap.push { cls := .type "slice", data := .fields #[.int x tx, .none, .none] } } :=
  slice_any F N ⟨_, (N _ ma).1, rfl, _, rfl⟩ (.int _ _) .none (pick_from hx) h hs (by rw [List.size_toArray]; exact Nat.le_trans hz (by decide +kernel))
theorem slice_upto_N {vs : List Value} {n : Nat} {x : Int} {tx : Tok} {Q : Value → Shared → Prop} (F : Fr h₀ L s.heap m) (N : News h₀ L s.heap news) (ma : (l, W.listOf vs.toArray n) ∈ news) (hx : 0 ≤ x) (hz : vs.length ≤ 1000)
    (h : ∀ D h', Fr h₀ L h' m → News h₀ L h' ((D, W.listOf (vs.take x.toNat).toArray 0) :: news) → (∀ p ∈ news, p.1 < D) → Q (.ref D) { s with heap := h' })
    (hs : subscripted slice false (.ref l) (.ref s.heap.objs.size) = operate [.ref s.heap.objs.size, .ref l] (getItem (.ref l) (.ref s.heap.objs.size))) :
    wpAny (model prog w) A (subscriptTail value slice (.ref l) (.ref s.heap.objs.size)) Q E { s with heap := s.heap.push { cls := .type "slice", data := .fields #[.none, .int x tx, .none] } } :=
  slice_any F N ⟨_, (N _ ma).1, rfl, _, rfl⟩ .none (.int _ _) (pick_upto hx) h hs (by rw [List.size_toArray]; exact Nat.le_trans hz (by decide +kernel))
end
theorem strsAre_getD {vs : List Value} {xs : List Str} (h : StrsAre vs xs) {i : Nat} (hi : i < xs.length) : ∃ t, vs.getD i Value.none = .str (xs.getD i (Str.ofString "")) t := by
  have hx : xs[i]? = some (xs.getD i (Str.ofString "")) := by rw [List.getD_eq_getElem?_getD, List.getElem?_eq_getElem hi]; rfl
  obtain ⟨t, ht⟩ := StrsAre.get h i _ hx
  exact ⟨t, by rw [List.getD_eq_getElem?_getD, ht]; rfl⟩
theorem strsAre_perm {vs : List Value} {xs : List Str} (h : StrsAre vs xs) : ∀ (pm : List Nat), (∀ i ∈ pm, i < xs.length) → StrsAre (pm.map fun i => vs.getD i Value.none) (pm.map fun i => xs.getD i (Str.ofString ""))
  | [], _ => .nil
  | i :: r, hb => by
    obtain ⟨t, ht⟩ := strsAre_getD h (hb i (.head _))
    rw [List.map_cons, List.map_cons, ht]
    exact .cons _ t (strsAre_perm h r fun j hj => hb j (.tail _ hj))
theorem depthAll_strs : ∀ ns : List Str, PyData.depthAll (ns.map PyData.str) ≤ 1
  | [] => by simp [PyData.depthAll]
  | n :: r => by
    have := depthAll_strs r
    simp only [List.map_cons, PyData.depthAll, PyData.depth]
    omega
theorem sameAll_strs : ∀ ns : List Str, PySem.Spec.sameAll (ns.map PyData.str) (ns.map PyData.str) = true
  | [] => by simp [PySem.Spec.sameAll]
  | n :: r => by simp [PySem.Spec.sameAll, PySem.Spec.same, sameAll_strs r]
theorem noMix_strs : ∀ ns : List Str, noMixAll (ns.map PyData.str) (ns.map PyData.str) = true
  | [] => by simp [noMixAll]
  | _ :: r => by simp [noMixAll, noMix, noMix_strs r]
theorem canLay_strs : ∀ ns : List Str, (∀ x ∈ ns, (PyData.str x).canLay0 = true) → PyData.canLayAll0 (ns.map PyData.str) = true
  | [], _ => by simp [PyData.canLayAll0]
  | n :: r, h => by
    have h1 := h n (.head _)
    simp [PyData.canLayAll0, h1, canLay_strs r fun x hx => h x (.tail _ hx)]
theorem names_lay : ∀ x ∈ nameL, (PyData.str x).canLay0 = true := by decide +kernel
section
variable {prog : Program} {w : World} {E : Value → Shared → Prop} {s : Shared} {h₀ : Heap} {L : Addr} {news : List (Addr × Obj)} {dp un : Nat} {gd : Option (List Code)} {cn : Str} {cs : Scope} {La ad : Addr} {ccd : Value} {cl : List (Str × Addr)} {outer : List Env}
theorem ne_same {a b : Addr} {va vb : List Value} {xs : List Str} {k k2 : Nat} {Q : Value → Shared → Prop} (N : News h₀ L s.heap news) (ma : (a, W.listOf va.toArray k) ∈ news) (mb : (b, W.listOf vb.toArray k2) ∈ news) (hi : StrsAre va xs) (hj : StrsAre vb xs) (hx : ∀ x ∈ xs, x ∈ nameL) (hu : un + 64 < cLine)
    (h : Q (.bool false) s) : wpAny (model prog w) (ktrTop dp un gd cn cs La ad ccd cl outer) (compareOp .NotEq (.ref a) (.ref b)) Q E s := by
  have r1 : Reads s.heap (.ref a) (.list (xs.map PyData.str)) [a] := Reads.list (N _ ma).1 rfl rfl (by simpa using StrsAre.reads s.heap hi)
  have r2 : Reads s.heap (.ref b) (.list (xs.map PyData.str)) [b] := Reads.list (N _ mb).1 rfl rfl (by simpa using StrsAre.reads s.heap hj)
  have hs : shaped (.list (xs.map PyData.str)) = true := by
    have h1 := depthAll_strs xs
    have h2 : PyData.depth (.list (xs.map PyData.str)) ≤ 64 := by simp only [PyData.depth]; omega
    show (PyData.canLay0 (.list (xs.map PyData.str)) && decide (PyData.depth (.list (xs.map PyData.str)) ≤ 64)) = true
    rw [Bool.and_eq_true]
    exact ⟨by simp only [PyData.canLay0]; exact canLay_strs xs fun x q => names_lay x (hx x q), decide_eq_true h2⟩
  exact ne_dataH_same r1 r2 hs hs hu (by simp only [noMix]; exact noMix_strs xs) (by simp only [PySem.Spec.same]; rw [sameAll_strs]; exact h)
end
end Mine
end
section
open PySem PySem.W PySem.Spec PySem.Calls PyProof.Rows Mine
set_option maxRecDepth 100000
set_option maxHeartbeats 4000000
namespace Mine
/-- what the law's call is to come to: True, what stood stays but for the tables, the generators done -/
noncomputable def EndT (s₁ : Shared) (tabs : List (Addr × Addr)) (r : Result) (s' : Shared) : Prop :=
  (∃ v, r = .ok (.ret v) ∧ v = .bool true) ∧ (∀ b o, (ghostOf s₁.heap tabs).get? b = some o → s'.heap.get? b = some o) ∧ s'.os = s₁.os ∧ AllBare s'.gens ∧ GrownAll tabs s'.heap
theorem end_post {M : Model} {A : Around} {cd : Code} {s s₁ : Shared} {cw : ClaimW} {cl : Str → Option Addr} {mean : ExcName → Option Value} {args : List WData} {tabs : List (Addr × Addr)} (hT : TabsAt tabs s₁.heap) (hr : ∀ a x, cw.raises a x = false)
    (hp : cw.post args (.bool true) args = true)
    (h : codeAny M A cd (EndT s₁ tabs) s) : codeAny M A cd (GoodWG cw cl mean args s₁) s :=
  codeAny_mono h fun r s' ⟨⟨v, e1, e2⟩, hk, hos, hg, hgr⟩ => by
    subst e1
    subst e2
    refine ⟨.inl ⟨.bool true, .bool true, [], rfl, fun x => hr _ x, .bool true, hp, fun _ => ⟨List.nodup_nil, fun a ha => nomatch ha⟩⟩, ⟨fun b o e => ?_, fun b o e => ?_⟩, hos, hg⟩
    · by_cases hb : b ∈ tabs.map (·.2)
      · obtain ⟨q, hq, rfl⟩ := List.mem_map.mp hb
        have e2 := (hT q hq).2
        rw [e] at e2
        obtain ⟨ps, hP⟩ := hgr.get q hq
        have eo : o = tabObj #[] := Option.some.inj e2
        subst eo
        exact .inr (.inl ⟨((hT q hq).1.tab (hT q hq).2).isCodeTable, rfl, #[], ps, rfl, by rw [Array.empty_append]; exact hP⟩)
      · exact .inl (hk b o (ghost_ne e hb))
    · by_cases hb : b ∈ tabs.map (·.2)
      · obtain ⟨q, hq, rfl⟩ := List.mem_map.mp hb
        obtain ⟨ps, hP⟩ := hgr.get q hq
        exact ⟨_, hP⟩
      · exact ⟨o, hk b o (ghost_ne e hb)⟩
end Mine
namespace Mine
section
variable {prog : Program} {w : World} {A : Around} {E : Value → Shared → Prop} {s : Shared} {h₀ : Heap} {L : Addr} {m : Str → Option Value} {news : List (Addr × Obj)} {value slice : PySem.Expr} {l : Addr}
theorem slice_from_S {vs : List Value} {xs : List Str} {n : Nat} {x : Int} {tx : Tok} {Q : Value → Shared → Prop} (F : Fr h₀ L s.heap m) (N : News h₀ L s.heap news) (ma : (l, W.listOf vs.toArray n) ∈ news) (hv : StrsAre vs xs) (hx : 0 ≤ x) (hz : xs.length ≤ 1000)
    (h : ∀ (D : Nat) ws h', StrsAre ws (xs.drop x.toNat) → Fr h₀ L h' m → News h₀ L h' ((D, W.listOf (List.toArray ws) 0) :: news) → (∀ p ∈ news, p.1 < D) → Q (.ref D) { s with heap := h' })
    (hs : subscripted slice false (.ref l) (.ref s.heap.objs.size) = operate [.ref s.heap.objs.size, .ref l] (getItem (.ref l) (.ref s.heap.objs.size))) :
    wpAny (model prog w) A (subscriptTail value slice (.ref l) (.ref s.heap.objs.size)) Q E { s with heap := s.heap.push { cls := .type "slice", data := .fields #[.int x tx, .none, .none] } } :=
  slice_from_N F N ma hx (by rw [StrsAre.length hv]; exact hz) (fun D h' F' N' l1 => h D _ h' (StrsAre.drop' hv _) F' N' l1) hs
theorem slice_upto_S {vs : List Value} {xs : List Str} {n : Nat} {x : Int} {tx : Tok} {Q : Value → Shared → Prop} (F : Fr h₀ L s.heap m) (N : News h₀ L s.heap news) (ma : (l, W.listOf vs.toArray n) ∈ news) (hv : StrsAre vs xs) (hx : 0 ≤ x) (hz : xs.length ≤ 1000)
    (h : ∀ (D : Nat) ws h', StrsAre ws (xs.take x.toNat) → Fr h₀ L h' m → News h₀ L h' ((D, W.listOf (List.toArray ws) 0) :: news) → (∀ p ∈ news, p.1 < D) → Q (.ref D) { s with heap := h' })
    (hs : subscripted slice false (.ref l) (.ref s.heap.objs.size) = operate [.ref s.heap.objs.size, .ref l] (getItem (.ref l) (.ref s.heap.objs.size))) :
    wpAny (model prog w) A (subscriptTail value slice (.ref l) (.ref s.heap.objs.size)) Q E { s with heap := s.heap.push { cls := .type "slice", data := .fields #[.none, .int x tx, .none] } } :=
  slice_upto_N F N ma hx (by rw [StrsAre.length hv]; exact hz) (fun D h' F' N' l1 => h D _ h' (StrsAre.take' hv _) F' N' l1) hs
theorem add_S {a b : Addr} {va vb : List Value} {xa xb : List Str} {n n2 : Nat} {Q : Value → Shared → Prop} (F : Fr h₀ L s.heap m) (N : News h₀ L s.heap news) (ma : (a, W.listOf va.toArray n) ∈ news) (mb : (b, W.listOf vb.toArray n2) ∈ news) (hva : StrsAre va xa) (hvb : StrsAre vb xb) (hz : xa.length + xb.length ≤ 5000)
    (h : ∀ (D : Nat) ws h', StrsAre ws (xa ++ xb) → Fr h₀ L h' m → News h₀ L h' ((D, W.listOf (List.toArray ws) 0) :: news) → (∀ p ∈ news, p.1 < D) → Q (.ref D) { s with heap := h' }) :
    wpAny (model prog w) A (binaryOp .Add (.ref a) (.ref b)) Q E s :=
  add_N F N ma mb (by rw [StrsAre.length hva, StrsAre.length hvb]; exact hz) fun D h' F' N' l1 => h D _ h' (StrsAre.append' hva hvb) F' N' l1
theorem gen_pos {α : Type} {M : Model} {t : Sem α} {Q : α → Shared → Prop} {hp : Heap} {g : Array GenState} {d : Drawn} {o : OsState} {k : Nat} (hle : 0 < k) (h : ∀ tk, 0 < tk → wpAny M A t Q E ⟨hp, g, d, tk, o⟩) : wpAny M A t Q E ⟨hp, g, d, k, o⟩ := h k hle
end
end Mine
namespace Mine
theorem fmod8_nn (a : Int) : 0 ≤ a.fmod 8 := by
  rw [Int.fmod_eq_emod_of_nonneg _ (by omega)]; omega
theorem fmod8_lt (a : Int) : (a.fmod 8).toNat < 8 := by
  rw [Int.fmod_eq_emod_of_nonneg _ (by omega)]; omega
end Mine
end
section
open PySem PySem.W PySem.Spec PySem.Calls PyProof.Rows Mine PyProof.Rows.LCg Mine.Eng
set_option maxRecDepth 100000
set_option maxHeartbeats 4000000
namespace Mine
theorem toks_useS {α : Type} {M : Model} {A : Around} {t : Sem α} {Q : α → Shared → Prop} {E : Value → Shared → Prop} {s : Shared}
    (h : wpAny M A t (fun a s' => Stp (s.toks ≤ s'.toks → Q a s')) E s) : wpAny M A t Q E s := toks_useQ h
/-- the table of cmp_to_key's code: empty, or as the first creation left it -/
noncomputable def K33 (P : Params) (C i : Nat) (t33 : List (Addr × Obj)) : Prop :=
  (∀ p ∈ t33, @Ne Nat p.1 C) ∧ ((i = 0 ∧ t33 = [(33, tabObj #[])]) ∨ (∃ qn qt qL, 174 ≤ qn ∧ t33 = Eng.tabL P qn qt qL))
noncomputable def Mark9 : Prop := True
theorem mark9 : Mark9 := trivial
theorem fr5 {h₀ h : Heap} {L : Addr} {m : Str → Option Value} {a b c d e : Str} {v4 v5 : Option Value} (F : Fr h₀ L h m) (h4 : m d = v4) (h5 : m e = v5) :
    ∃ (u1 u2 u3 : Option Value) (m₀ : Str → Option Value), Fr h₀ L h (fun y => if y = a then u1 else if y = b then u2 else if y = c then u3 else if y = d then v4 else if y = e then v5 else m₀ y) := by
  refine ⟨m a, m b, m c, m, ?_⟩
  have q : (fun y => if y = a then m a else if y = b then m b else if y = c then m c else if y = d then v4 else if y = e then v5 else m y) = m := by
    funext y
    by_cases q1 : y = a
    · subst q1; simp
    · by_cases q2 : y = b
      · subst q2; simp [q1]
      · by_cases q3 : y = c
        · subst q3; simp [q1, q2]
        · by_cases q4 : y = d
          · subst q4; simp [q1, q2, q3, h4]
          · by_cases q5 : y = e
            · subst q5; simp [q1, q2, q3, q4, h5]
            · simp [q1, q2, q3, q4, q5]
  rw [q]; exact F
theorem name2 {h₀ h : Heap} {L : Addr} {R : Str → Option Value} {a b : Addr} {r n : Str} (_F : Fr h₀ L h (fun y => if y = r then some (.ref a) else if y = n then some (.ref b) else R y)) : ∃ (lR lM : Nat), lR = a ∧ lM = b := ⟨a, b, rfl, rfl⟩
theorem name_ints {v : List Value} {r : List Int} (_h : IntsAre v r) : ∃ (v' : List Value) (r' : List Int), v' = v ∧ r' = r := ⟨v, r, rfl, rfl⟩
theorem name_strs {v : List Value} {r : List Str} (_h : StrsAre v r) : ∃ (v' : List Value) (r' : List Str), v' = v ∧ r' = r := ⟨v, r, rfl, rfl⟩
/-- a comprehension without a test, by an invariant -/
theorem comp_indU {prog : Program} {w : World} {A : Around} {s : Shared} {h₀ : Heap} {L : Addr} {m : Str → Option Value} {env : Env} {elt : Expr} {x : Str} {scope : Scope} {cl : List (Str × Addr)} {S : List (Addr × Obj) → Prop} {P : Nat → Value → Prop} {Fin : List Value → List (Addr × Obj) → Prop}
    {n : Nat} {news : List (Addr × Obj)} (I : Nat → List Value → List (Addr × Obj) → Prop) (h0 : I 0 [] news)
    (hs : ∀ k i ys news', i < n → I i ys news' → (∀ ys' news'', I (i + 1) ys' news'' → CompRest prog w A h₀ L m env elt x scope cl s S P Fin k (i + 1) ys' news'') → CompRest prog w A h₀ L m env elt x scope cl s S P Fin (k + 1) i ys news')
    (hF : ∀ ys news', I n ys news' → Fin ys news') : CompRest prog w A h₀ L m env elt x scope cl s S P Fin n 0 [] news := by
  have key : ∀ k i ys news', i + k = n → I i ys news' → CompRest prog w A h₀ L m env elt x scope cl s S P Fin k i ys news' := by
    intro k
    induction k with
    | zero => intro i ys news' e h; exact CompRest.zero (hF _ _ (by rw [← e]; exact h))
    | succ k ih => intro i ys news' e h; exact hs k i ys news' (by omega) h fun ys' news'' h' => ih (i + 1) ys' news'' (by omega) h'
  exact key n 0 [] news (by omega) h0
section
variable {prog : Program} {w : World} {A : Around} {E : Value → Shared → Prop} {s : Shared} {h₀ : Heap} {L : Addr} {m : Str → Option Value} {news : List (Addr × Obj)} {value slice : PySem.Expr} {l : Addr}
theorem slice_upto_I {vs : List Value} {xs : List Int} {n k : Nat} {x : Int} {tx : Tok} {Q : Value → Shared → Prop} (F : Fr h₀ L s.heap m) (N : News h₀ L s.heap news) (ma : (l, W.listOf vs.toArray n) ∈ news) (hv : IntsAre vs xs) (hx : x = (k : Int)) (hz : xs.length ≤ 1000)
    (h : ∀ (D : Nat) ws h', IntsAre ws (xs.take k) → Fr h₀ L h' m → News h₀ L h' ((D, W.listOf (List.toArray ws) 0) :: news) → (∀ p ∈ news, p.1 < D) → Q (.ref D) { s with heap := h' })
    (hs : subscripted slice false (.ref l) (.ref s.heap.objs.size) = operate [.ref s.heap.objs.size, .ref l] (getItem (.ref l) (.ref s.heap.objs.size))) :
    wpAny (model prog w) A (subscriptTail value slice (.ref l) (.ref s.heap.objs.size)) Q E { s with heap := s.heap.push { cls := .type "slice", data := .fields #[.none, .int x tx, .none] } } := by
  subst hx
  exact slice_upto_N F N ma (by omega) (by rw [IntsAre.length hv]; exact hz) (fun D h' F' N' l1 => h D _ h' (hv.take _) F' N' l1) hs
theorem item_S {vs : List Value} {xs : List Str} {n k : Nat} {e : Int} {u : Tok} {x : Str} {Q : Value → Shared → Prop} (N : News h₀ L s.heap news) (ma : (l, W.listOf vs.toArray n) ∈ news) (hv : StrsAre vs xs) (he : e = (k : Int)) (hk : xs.length ≤ 100) (hx : xs[k]? = some x) (h : ∀ t, Q (.str x t) s)
    (hs : subscripted slice false (.ref l) (.int e u) = operate [.ref l, .int e u] (getItem (.ref l) (.int e u))) :
    wpAny (model prog w) A (subscriptTail value slice (.ref l) (.int e u)) Q E s := by
  obtain ⟨t, ht⟩ := StrsAre.get hv k x hx
  have hl : s.heap.IsList l vs.toArray := ⟨_, (N _ ma).1, rfl, _, rfl⟩
  have hlt : k < xs.length := (List.getElem?_eq_some_iff.mp hx).1
  subst he
  exact tail_any hl.typeIs slot_list_getitem.lookup (wpAny_getItem_list hl (by omega) (by omega) (by simpa using ht) (h t)) hs
end
theorem filt_told {t : Nat} (rs : List Rl) (h : ∀ r ∈ rs, r.1 < 7) : without (rotL t) (rs.foldl ruledF []) = (rotL t).filter (toldB rs) := by
  unfold without
  refine List.filter_congr fun x hx => ?_
  have hxn : x ∈ nameL := by
    unfold rotL at hx
    rcases List.mem_append.mp hx with q | q
    · exact List.mem_of_mem_drop q
    · exact List.mem_of_mem_take q
  have hi := idx_lt x hxn
  have hg : nameL.getD (nameL.idxOf x) (Str.ofString "") = x := by
    have hl : nameL.idxOf x < nameL.length := List.idxOf_lt_length_iff.mpr hxn
    rw [List.getD_eq_getElem?_getD, List.getElem?_eq_getElem hl, List.getElem_idxOf hl]; rfl
  have z := left_told hi hg rs h
  unfold toldB
  by_cases q : x ∈ rs.foldl ruledF []
  · have z2 : ¬ (meantF (nameL.idxOf x) rs).getLast? ≠ some 0 := fun w => (z.mpr w) q
    simp only [q, decide_true, Bool.not_true]
    exact (decide_eq_false z2).symm
  · have z2 := z.mp q
    simp only [q, decide_false, Bool.not_false]
    exact (decide_eq_true z2).symm
theorem rl_ok (rs : List Int) : ∀ r ∈ rs.map rlOf, r.1 < 7 := by
  intro r hr
  obtain ⟨a, _, rfl⟩ := List.mem_map.mp hr
  obtain ⟨k, hk, e⟩ := rule_k a
  rw [rlOf_eq e]; exact hk
theorem rot_sub {t : Nat} {f : Str → Bool} : ∀ x ∈ (rotL t).filter f, x ∈ nameL := by
  intro x hx
  have hx := (List.mem_filter.mp hx).1
  unfold rotL at hx
  rcases List.mem_append.mp hx with q | q
  · exact List.mem_of_mem_drop q
  · exact List.mem_of_mem_take q
theorem rot_len (t : Nat) : (rotL t).length = 8 := by
  unfold rotL
  rw [List.length_append, List.length_drop, List.length_take]
  have : nameL.length = 8 := rfl
  omega
theorem filt_len (t : Nat) (f : Str → Bool) : ((rotL t).filter f).length ≤ 8 := by
  have := List.length_filter_le f (rotL t)
  rw [rot_len] at this
  exact this
theorem rot_mem (t : Nat) : ∀ x ∈ rotL t, x ∈ nameL := by
  intro x hx
  unfold rotL at hx
  rcases List.mem_append.mp hx with q | q
  · exact List.mem_of_mem_drop q
  · exact List.mem_of_mem_take q
theorem endP_at {xs : List Str} {i : Nat} {x : Str} (h : xs[i]? = some x) : (endP xs)[i]? = some (endS x, (i : Int)) := by
  have hi : i < xs.length := (List.getElem?_eq_some_iff.mp h).1
  unfold endP
  rw [List.getElem?_map, List.getElem?_range hi]
  simp only [Option.map_some]
  rw [List.getD_eq_getElem?_getD, h]; rfl
theorem rng9 : ∀ n : Nat, n < 10 → Builtin.Range.small 0 ((n : Nat) : Int) 1 = true ∧ Builtin.Range.rangeSize 0 ((n : Nat) : Int) 1 = ((n : Nat) : Int) := by decide +kernel
theorem endP_len (xs : List Str) : (endP xs).length = xs.length := by simp [endP]
end Mine
end
section
open PySem PySem.W PySem.Spec PySem.Calls PyProof.Rows Mine
set_option maxRecDepth 100000
set_option maxHeartbeats 4000000
namespace Mine
noncomputable def isCellB (d : Data) : Bool := match d with
  | .cell _ => true
  | _ => false
noncomputable def notRng (v : Value) : Bool := match v with
  | .type t => !(t == "range_iterator")
  | _ => true
noncomputable def tabB (P : Params) (n q L : Nat) : Bool := [0, 6, 5, 14, 22].all fun j => !(isCellB (Eng.ob (Eng.TA P n q L) j).data) && notRng (Eng.ob (Eng.TA P n q L) j).cls
theorem tab_nc (P : Params) (n q L : Nat) : tabB P n q L = true := by kernel_rfl
theorem tab_at {P : Params} {n q L : Nat} : ∀ p ∈ Eng.tabL P n q L, isCellB p.2.data = false ∧ notRng p.2.cls = true := by
  have h := tab_nc P n q L
  unfold tabB at h
  simp only [List.all_cons, List.all_nil, Bool.and_true, Bool.and_eq_true, Bool.not_eq_true'] at h
  obtain ⟨h0, h6, h5, h14, h22⟩ := h
  intro p hp
  unfold Eng.tabL at hp
  simp only [List.mem_cons, List.not_mem_nil, or_false] at hp
  rcases hp with rfl | rfl | rfl | rfl | rfl
  · exact h0
  · exact h6
  · exact h5
  · exact h14
  · exact h22
/-- the table's objects lie neither at a cell nor at a range iterator -/
theorem tab_ne {P : Params} {n q L : Nat} {h₀ h : Heap} {Lf : Addr} {all : List (Addr × Obj)} (N : News h₀ Lf h all) (sub : ∀ p ∈ Eng.tabL P n q L, p ∈ all) {a : Addr} {o : Obj} (e : h.get? a = some o) (hb : isCellB o.data = true ∨ notRng o.cls = false) : ∀ p ∈ Eng.tabL P n q L, @Ne Nat p.1 a := by
  intro p hp q
  have z := tab_at p hp
  have e1 := (N p (sub p hp)).1
  rw [show p.1 = a from q, e] at e1
  have e2 : o = p.2 := Option.some.inj e1
  subst e2
  rcases hb with hb | hb
  · rw [z.1] at hb; cases hb
  · rw [z.2] at hb; cases hb
end Mine
end
local macro_rules | `(tactic| walk_at "storeName") => `(tactic| (k_here; k_dflt (refine PySem.W.storeX_L (by k_asm) (by k_asm) ?_ (by rfl) (by rfl)); intro h' F' N'; refine Mine.fr_let F' ?_; clear F'; intro m' F'; (try k_sweep)))
section
example : Mine.Stp True := by first | (walk1; fail) | (w_top off; exact Mine.Stp.to trivial)
open PySem PySem.W PySem.Spec PySem.Calls PyProof.Rows Mine
set_option maxRecDepth 100000
set_option maxHeartbeats 4000000
namespace Mine
section
variable {prog : Program} {w : World} {A : Around} {E : Value → Shared → Prop} {s : Shared} {h₀ : Heap} {L : Addr} {all : List (Addr × Obj)} {value slice : PySem.Expr} {t : Addr}
theorem item_two {a b : Value} {n : Nat} {u : Tok} {Q : Value → Shared → Prop} (N : News h₀ L s.heap all) (m : (t, ({ cls := .type "tuple", data := .seq #[a, b] n } : Obj)) ∈ all) (h : Q b s)
    (hs : subscripted slice false (.ref t) (.int 1 u) = operate [.ref t, .int 1 u] (getItem (.ref t) (.int 1 u)) := by with_unfolding_all rfl) (hg : ∀ r, letTemporaryGo value (.ref t) r = pure () := by intro _; with_unfolding_all rfl) :
    wpAny (model prog w) A (subscriptTail value slice (.ref t) (.int 1 u)) Q E s :=
  item_tuple (items := #[a, b]) (j := 1) (x := b) ⟨_, (N _ m).1, rfl, _, rfl⟩ (by decide) (by decide) rfl rfl h hs hg
theorem item_strsN {vs : List Value} {ys : List Str} {n : Nat} {k : Int} {u : Tok} {Q : Value → Shared → Prop} (N : News h₀ L s.heap all) (m : (t, W.listOf vs.toArray n) ∈ all) (hv : StrsAre vs ys)
    (h0 : 0 ≤ k) (hk : k < ys.length) (hfit : k < 2 ^ 63) (h : ∀ t', Q (.str (ys.getD k.toNat Str.empty) t') s)
    (hs : subscripted slice false (.ref t) (.int k u) = operate [.ref t, .int k u] (getItem (.ref t) (.int k u)) := by with_unfolding_all rfl) :
    wpAny (model prog w) A (subscriptTail value slice (.ref t) (.int k u)) Q E s :=
  item_strsR ⟨_, (N _ m).1, rfl, _, rfl⟩ hv h0 hk hfit h hs
theorem news_app {h : Heap} {X Y : List (Addr × Obj)} (a : News h₀ L h X) (b : News h₀ L h Y) : News h₀ L h (X ++ Y) := fun p hp => (List.mem_append.mp hp).elim (a p) (b p)
theorem news_cut {h : Heap} {d c : Addr × Obj} {X Y R : List (Addr × Obj)} (N : News h₀ L h (d :: (X ++ (Y ++ c :: R)))) : News h₀ L h R ∧ News h₀ L h Y :=
  ⟨fun p hp => N p (.tail _ (List.mem_append_right _ (List.mem_append_right _ (.tail _ hp)))), fun p hp => N p (.tail _ (List.mem_append_right _ (List.mem_append_left _ hp)))⟩
theorem news_cut3 {h : Heap} {a b c : Addr × Obj} {X Y : List (Addr × Obj)} (N : News h₀ L h (a :: b :: c :: (X ++ Y))) : News h₀ L h (X ++ Y) ∧ News h₀ L h Y :=
  ⟨fun p hp => N p (.tail _ (.tail _ (.tail _ hp))), fun p hp => N p (.tail _ (.tail _ (.tail _ (List.mem_append_right _ hp))))⟩
theorem news_cut2 {h : Heap} {a b : Addr × Obj} {X Y : List (Addr × Obj)} (N : News h₀ L h (a :: b :: (X ++ Y))) : News h₀ L h X ∧ News h₀ L h Y :=
  ⟨fun p hp => N p (.tail _ (.tail _ (List.mem_append_left _ hp))), fun p hp => N p (.tail _ (.tail _ (List.mem_append_right _ hp)))⟩
theorem pickN {h : Heap} {rest : List (Addr × Obj)} {p : Addr × Obj} (N : News h₀ L h all) (m : p ∈ all) (r : News h₀ L h rest) : News h₀ L h (p :: rest) := List.forall_mem_cons.mpr ⟨N _ m, r⟩
end
end Mine
namespace Mine
local macro_rules | `(tactic| walk_at "nn") => `(tactic| first | assumption | exact fmod8_nn _ | omega)
local macro_rules | `(tactic| walk_at "i7") => `(tactic| (intro D' ws' h' hws' F' N' l1; (try k_lt l1)))
local macro_rules | `(tactic| walk_at "subscriptTail") => `(tactic| (k_here; (with_reducible show wpAny _ _ (subscriptTail _ (PySem.Expr.Slice _ _ none _) (Value.ref _) (Value.ref _)) _ _ _); k_dflt (first | refine slice_from_S (by k_asm) (by k_asm) (by k_mem) (by assumption) (by walk_at "nn") (by decide) ?_ (by with_unfolding_all rfl) | refine slice_upto_S (by k_asm) (by k_asm) (by k_mem) (by assumption) (by walk_at "nn") (by decide) ?_ (by with_unfolding_all rfl)); walk_at "i7"))
local macro_rules | `(tactic| walk_at "binaryOp Add ref ref") => `(tactic| (k_here; k_dflt (refine add_S (by k_asm) (by k_asm) (by k_mem) (by k_mem) (by assumption) (by assumption) (by (simp only [List.length_drop, List.length_take]; exact Nat.le_trans (Nat.add_le_add (Nat.sub_le _ _) (Nat.min_le_right _ _)) (by decide))) ?_; walk_at "i7")))
local macro_rules | `(tactic| walk_at "exec For Name Call cons nil") => `(tactic| (refine Stp.of ?_))
local macro_rules | `(tactic| walk_at "execs cons") => `(tactic| (k_here; (with_reducible rename Mark9 => hMk9); (fail_if_success (fail_if_success k_gentoks)); (refine gen_pos (by walk_at "oo") ?_; intro tk' hT')))
local macro_rules | `(tactic| walk_at "call ref") => `(tactic| (k_here; with_reducible (first | refine at_c 47 ?_ | refine at_c 91 ?_ | refine at_c 167 ?_ | refine at_c 38 ?_ | refine at_c 155 ?_); refine Stp.of ?_))
local macro_rules | `(tactic| walk_at "call builtin:sorted") => `(tactic| (refine Stp.of ?_))
local macro_rules | `(tactic| walk_at "subscriptTail Name Slice ref ref") => `(tactic| (k_here; (with_reducible show wpAny _ _ (subscriptTail _ (PySem.Expr.Slice _ _ none _) (Value.ref _) (Value.ref _)) _ _ _); (with_reducible rename Mark9 => hMk9); k_dflt (refine slice_upto_I (by k_asm) (by k_asm) (by k_mem) (by assumption) (by exact Int.zero_add _) (by omega) ?_ (by with_unfolding_all rfl); walk_at "i7")))
local macro_rules | `(tactic| walk_at "CompSrc") => `(tactic| (refine Stp.of ?_))
local macro_rules | `(tactic| walk_at "eval ListComp") => `(tactic| (refine Stp.of ?_))
local macro_rules | `(tactic| walk_at "subscriptTail") => `(tactic| (k_here; (with_reducible show wpAny _ _ (subscriptTail _ (PySem.Expr.Name _ _) (Value.ref _) (Value.int _ _)) _ _ _); refine Stp.of ?_))
theorem len_NS {prog : Program} {w : World} {A : Around} {E : Value → Shared → Prop} {s : Shared} {h₀ : Heap} {L : Addr} {news : List (Addr × Obj)} {l : Addr} {vs : List Value} {xs : List Str} {n : Nat} {Q : Value → Shared → Prop} (N : News h₀ L s.heap news) (m : (l, W.listOf vs.toArray n) ∈ news) (hv : StrsAre vs xs) (hz : xs.length ≤ 1000)
    (h : ∀ t tk', Q (.int (xs.length : Int) t) { s with toks := tk' }) : wpAny (model prog w) A (call (.builtin "len") [.ref l]) Q E s := by
  have hl : s.heap.IsList l vs.toArray := ⟨_, (N _ m).1, rfl, _, rfl⟩
  have e : vs.toArray.size = xs.length := by rw [List.size_toArray, Eng.strsAre_len hv]
  refine PySem.Calls.call_len_list hl (by rw [e]; omega) ?_
  rw [e]
  exact h _ _
theorem sub9 {a I C D b c d : Addr × Obj} {R : List (Addr × Obj)} : ∀ p ∈ I :: C :: D :: a :: R, p ∈ a :: I :: C :: D :: b :: c :: d :: R :=
  List.forall_mem_cons.mpr ⟨by k_mem, List.forall_mem_cons.mpr ⟨by k_mem, List.forall_mem_cons.mpr ⟨by k_mem, List.forall_mem_cons.mpr ⟨by k_mem, fun _ h => .tail _ (.tail _ (.tail _ (.tail _ (.tail _ (.tail _ (.tail _ h))))))⟩⟩⟩⟩
theorem getD_mem {xs : List Str} {i : Nat} (h : i < xs.length) : xs.getD i (Str.ofString "") ∈ xs := by
  rw [List.getD_eq_getElem?_getD, List.getElem?_eq_getElem h]
  exact List.getElem_mem h
theorem sub4 {I C D b : Addr × Obj} {R : List (Addr × Obj)} : ∀ p ∈ I :: C :: D :: R, p ∈ I :: C :: D :: b :: R :=
  List.forall_mem_cons.mpr ⟨by k_mem, List.forall_mem_cons.mpr ⟨by k_mem, List.forall_mem_cons.mpr ⟨by k_mem, fun _ h => .tail _ (.tail _ (.tail _ (.tail _ h)))⟩⟩⟩
theorem tab_head (P : Params) (n q L : Nat) : Eng.ob (Eng.TA P n q L) 0 = tabObj (Eng.fldOf (Eng.ob (Eng.TA P n q L) 0)) := by kernel_rfl
theorem name_news {h₀ h : Heap} {L : Addr} {all : List (Addr × Obj)} (_N : News h₀ L h all) : ∃ B, B = all := ⟨_, rfl⟩
/-- cmp_to_key, whichever creation it is -/
theorem cmp_any (w : World) (C i : Nat) (t33 news : List (Addr × Obj)) (hK : K33 w.params C i t33)
   (p : Program) (loose : List Str) (mean : ExcName → Option Value) (mg mb : Str → Option Value) (dp un : Nat) (gd : Option (List Code)) (cn : Str) (cs : Scope) (a : Addr) (ccd : Value) (cl : List (Str × Addr)) (outer : List Env) (A₀ : Around) (base h₀ : Heap) (L : Addr) (m : Str → Option Value) (s : Shared) (Q E : Value → Shared → Prop)
    (B : Below A₀ base outer h₀) (F : Fr h₀ L s.heap m) (X : (hd.heap_1 w.params).In h₀) (XE : Stp ((Eng.KE w.params).In base))
    (N : News h₀ L s.heap (t33 ++ news)) (h33 : ∀ q ∈ news, q.1 ≠ 33)
    (T : Top p loose mean mg mb h₀) (hk : cs.kind = .function) (hdp : dp + 8 < recursionLimit) (hu : un + 64 < cLine) (hdp2 : dp ≤ 800) (hun2 : un ≤ 150)
    (hret : ∀ qn qt qL cell C ns p fI fL cI cL oC oN oP oI oL oci ocl occ h' tk', Eng.KGot w.params qn qt qL cell C ns p fI fL cI cL oC oN oP oI oL oci ocl occ → Fr h₀ L h' m →
      News h₀ L h' (Eng.clsL C ns p fI fL oC oN oP oI oL ++ (Eng.tabL w.params qn qt qL ++ (cell, occ) :: news)) → Q (.ref C) { s with heap := h', toks := tk' }) :
    wpAny (model PR w) (ktrTop dp un gd cn cs L a ccd cl outer) (call (.ref 38) [.ref 162]) Q E s := by
  rcases hK.2 with ⟨_, rfl⟩ | ⟨qn, qt, qL, lo, rfl⟩
  · exact Eng.cmp_first w news p loose mean mg mb dp un gd cn cs a ccd cl outer A₀ base h₀ L m s Q E B F X XE N h33 T hk hdp hu hdp2 hun2 hret
  · exact Eng.cmp_later w news p loose mean mg mb dp un gd cn cs a ccd cl outer A₀ base h₀ L m s Q E B F X XE qn qt qL lo N T hk hdp hu hdp2 hun2 (hret qn qt qL)
local macro_rules | `(tactic| walk_at "compareOp NotEq ref ref") => `(tactic| (refine Stp.of ?_))
local macro_rules | `(tactic| walk_at "call builtin:len") => `(tactic| (k_here; with_reducible refine at_b "len" ?_; k_dflt (refine len_NS (by k_asm) (by k_mem) (by assumption) (by exact Nat.le_trans (filt_len _ _) (by decide)) ?_; intro t' tk')))
local macro_rules | `(tactic| walk_at "subscriptTail Name Constant ref int") => `(tactic| (k_here; k_dflt (refine item_two (by k_asm) (by k_mem) ?_)))
local macro_rules | `(tactic| walk_at "subscriptTail Name Subscript ref int") => `(tactic| (k_here; k_dflt (refine item_strsN (by k_asm) (by k_mem) (by assumption) (by omega) (by omega) (by omega) ?_); intro _))
theorem ke_in {w : World} {h : Heap} (X : (hd.heap_1 w.params).In h) (e0 : h.get? 0 = some (bo0 w.params)) (e4 : h.get? 4 = some (bo4 w.params)) : (Eng.KE w.params).In h := by
  intro a o e
  unfold Eng.KE at e
  rw [List.lookup_cons] at e
  by_cases q : (a == 0) = true
  · rw [q] at e
    have : a = 0 := by simpa using q
    subst this
    rw [e0]; exact e
  · simp only [Bool.not_eq_true] at q
    rw [q] at e
    rw [List.lookup_cons] at e
    by_cases q4 : (a == 4) = true
    · rw [q4] at e
      have : a = 4 := by simpa using q4
      subst this
      rw [e4]; exact e
    · simp only [Bool.not_eq_true] at q4
      rw [q4] at e
      exact X a o e
theorem k33_ne110 {P : Params} {C i : Nat} {t33 : List (Addr × Obj)} (h : K33 P C i t33) : ∀ p ∈ t33, @Ne Nat p.1 110 := by
  intro p hp
  rcases h.2 with ⟨_, rfl⟩ | ⟨qn, qt, qL, lo, rfl⟩
  · rw [List.mem_singleton.mp hp]; show (33 : Nat) ≠ 110; omega
  · unfold Eng.tabL at hp
    simp only [List.mem_cons, List.not_mem_nil, or_false] at hp
    rcases hp with rfl | rfl | rfl | rfl | rfl
    · show (33 : Nat) ≠ 110; omega
    · show qn + 5 ≠ 110; omega
    · show qn + 4 ≠ 110; omega
    · show qn + 13 ≠ 110; omega
    · show qn + 21 ≠ 110; omega
inductive MainK (P : Params) (sz lR lM : Nat) (vR vM : List Value) (g : Heap) : Nat → Heap → (Str → Option Value) → List (Addr × Obj) → Prop
  | mk {i : Nat} {g2 : Heap} (u1 u2 u3 : Option Value) (m0 : Str → Option Value) (oC : Obj) (xC : Option Value) (ps2 : Array Value) (t33 : List (Addr × Obj)) (hps : TabOk ps2.toList) (dC : oC.data = .cell xC) (Rb : Reb [] g g2) (hK : K33 P (sz + 1) i t33) :
    MainK P sz lR lM vR vM g i g2 (fun y => if y = Str.ofString "count" then u1 else if y = Str.ofString "left" then u2 else if y = Str.ofString "order" then u3 else if y = Str.ofString "names" then some (Value.ref lM) else if y = Str.ofString "rules" then some (Value.ref lR) else m0 y)
      ((lR, W.listOf vR.toArray 0) :: (lM, W.listOf vM.toArray 0) :: (sz + 1, oC) :: (110, tabObj ps2) :: t33)
theorem main0 : PySem.Challenge.rw_il0016_01.Holds := hd (by
  k_fill
  intro w s₀ s₁ mg mb G Y fa o pm cd doc dV kV ho hd hcd hD hmg hg args vals as hpre hlay hrd hwl hlo
  have Y0 := Y.2
  have KX := km_in_of Y.1
  have hT8 := km_tabs_of Y.1
  have X := (Ground.X G).1
  have V := (Ground.X G).2
  refine Ground.open G ?_
  intro T B D TE TW
  try (refine guard_noD D (by decide +kernel) ?_; clear D)
  km_lay T hmg ho hd cd
  clear hmg
  wrow_args hpre hlay hrd hwl hlo
  all_goals (
    first | refine callC_kw (enter_call ?_) | refine enter_call ?_
    w_top on
    refine end_post hT9 (fun _ _ => rfl) ?post ?_
    case post => wrow_post
    w_call any ho hd hcd hD T F
    clear hd
    kn_ghosts F T
    k_drop
    skip)
  k_steps
  refine Stp.to ?_
  rename Fr _ _ _ _ => F9
  rename News _ _ _ _ => N9
  rename IntsAre _ (_ ++ _) => hRs
  rename StrsAre _ (_ ++ _) => hNm
  obtain ⟨lR, lM, rfl, rfl⟩ := name2 F9
  obtain ⟨vR, rs, rfl, hrs⟩ := name_ints hRs
  obtain ⟨vM, xM, rfl, hxM⟩ := name_strs hNm
  rw [← hrs] at hRs
  rw [← hxM] at hNm
  obtain ⟨t, ht8, hxr⟩ : ∃ t, t < 8 ∧ xM = Eng.rotL t := ⟨_, fmod8_lt _, hxM⟩
  have hrl : rs.length ≤ 8 := by rw [hrs, List.length_append, List.length_take]; show _ + 5 ≤ 8; omega
  clear hxM
  subst hxr
  have XE : Stp ((Eng.KE w.params).In (ghostOf s₁.heap [(114, 110), (37, 33)])) := Stp.to (ke_in (by assumption) (ghost_ne Y0.1 (by decide)) (ghost_ne Y0.2 (by decide)))
  have CH : CodeHd (ghostOf s₁.heap [(114, 110), (37, 33)]) 114 110 := by assumption
  refine for_walksY (L := s₁.heap.objs.size) (keep := []) (n := rs.length + 1) rfl (MainK w.params s₁.heap.objs.size lR lM vR vM (ghostOf s₁.heap [(114, 110), (37, 33)])) (toks_useS ?_)
  k_steps
  refine Stp.to ?_
  intro hle
  dsimp only at hle
  rename Fr _ _ _ _ => F8
  rename News _ _ _ _ => N8
  rename IsRange _ _ _ _ _ _ _ _ => hR8
  rename_i hH tkH t1H u1H v1H keepH
  clear keepH
  dsimp only
  obtain ⟨z1, z2⟩ := rng9 (rs.length + 1) (by omega)
  refine wpAny_pyIter_range hR8 z1 ?_
  dsimp only
  obtain ⟨u1, u2, u3, m0, F7⟩ := fr5 (a := Str.ofString "count") (b := Str.ofString "left") (c := Str.ofString "order") (d := Str.ofString "names") (e := Str.ofString "rules") (v4 := some (Value.ref lM)) (v5 := some (Value.ref lR)) F8 rfl rfl
  with_reducible rename (_ = Data.cell _) => dC
  with_reducible rename Obj => oC0
  rename Below _ _ _ _ => BG
  rename Top _ _ _ _ _ (ghostOf _ _) => TG
  rename (hd.heap_1 w.params).In (ghostOf _ _) => XG
  have N7 : News (ghostOf s₁.heap [(114, 110), (37, 33)]) s₁.heap.objs.size hH [(lR, W.listOf vR.toArray 0), (lM, W.listOf vM.toArray 0), (s₁.heap.objs.size + 1, oC0), (110, tabObj #[]), (33, tabObj #[])] := by
    refine fun p hp => N8 p (?_ : p ∈ _)
    revert p
    with_reducible (repeat (first | exact sub_refl | refine sub_cons ?_ | refine sub_skip ?_))
  have hlt8 : ∀ p ∈ [(lR, W.listOf vR.toArray 0), (lM, W.listOf vM.toArray 0), (s₁.heap.objs.size + 1, oC0), (110, tabObj #[]), (33, tabObj #[])], @LT.lt Nat _ p.1 hH.objs.size := fun p hp => Heap.lt_size (N7 p hp).1
  have nlt1 : @LT.lt Nat _ (s₁.heap.objs.size + 1) hH.objs.size := hlt8 (s₁.heap.objs.size + 1, oC0) (.tail _ (.tail _ (.head _)))
  have nlt2 : @LT.lt Nat _ lR hH.objs.size := hlt8 (lR, _) (.head _)
  have nlt3 : @LT.lt Nat _ lM hH.objs.size := hlt8 (lM, _) (.tail _ (.head _))
  have CI := fun (cs' : Scope) (hc : cs'.kind = .function) => (⟨BG, XG, TG, hc⟩ : Cx w _ _ _ _ _ cs' callerA (ghostOf s₁.heap [(114, 110), (37, 33)]) [] (ghostOf s₁.heap [(114, 110), (37, 33)]))
  have nsz : @Ne Nat hH.objs.size s₁.heap.objs.size := Nat.ne_of_gt F8.ns.lt
  have gsz : (ghostOf s₁.heap [(114, 110), (37, 33)]).get? hH.objs.size = none := next_is_new F8
  have nlt : @LT.lt Nat _ s₁.heap.objs.size hH.objs.size := F8.ns.lt
  clear F8 N8 hR8
  refine ⟨hH.objs.size, ghostOf s₁.heap [(114, 110), (37, 33)], _, _, _, _, _, _, rfl, rfl, LCg.range_walks rfl 0 (rs.length + 1), (fun i h st => ⟨_, st⟩), ?a1, F7.push _,
    List.forall_mem_cons.mpr ⟨⟨Heap.get?_push_size _ rfl, nsz, gsz⟩, fun p hp => ⟨Heap.get?_push_of_some _ (N7 p hp).1, (N7 p hp).2⟩⟩, (fun p hp => Nat.ne_of_lt (hlt8 p hp)), (fun p hp => nomatch hp),
    .mk u1 u2 u3 m0 _ _ #[] [(33, tabObj #[])] .nil dC (Reb.refl _ _) ⟨fun p hp => ?a3, .inl ⟨rfl, rfl⟩⟩, ?a4, ?a5⟩
  · show IsRangeIter _ _ _ _ _
    have z3 : Builtin.Range.rangeSize 0 ((rs.length : Int) + 1) 1 = ((rs.length + 1 : Nat) : Int) := z2
    rw [z3]
    simpa using Heap.get?_push_size _ rfl
  · rw [List.mem_singleton.mp hp]
    show (33 : Nat) ≠ _
    omega
  · intro i v g2 m2 nw2 oI2 h2 tk2 gs2 hi hP hSt hK hle2 hg F2 N2 hoff hkeep E2
    obtain ⟨u1, u2, u3, m0, oC, xC, ps2, t33, hps2, dC2, Rb, hK33⟩ := hK
    obtain ⟨tv, rfl⟩ := hP
    have hrng : notRng oI2.cls = false := by
      have e1 := (N2 _ (.head _)).1
      have e2 : h2.get? hH.objs.size = some _ := hSt
      have e3 : oI2 = _ := Option.some.inj (e1.symm.trans e2)
      rw [e3]; rfl
    clear F7 N7 hlt8
    have C2 := fun cs' hc => (CI cs' hc).reb Rb
    have X2 := (C2 { (default : Scope) with kind := .function } rfl).X
    have T2 := (C2 { (default : Scope) with kind := .function } rfl).T
    have B2 := (C2 { (default : Scope) with kind := .function } rfl).B
    have hMk : Mark9 := mark9
    try dsimp only at hle2
    k_steps
    refine Stp.to ?_
    rename Fr _ _ _ _ => F3
    rename News _ _ _ _ => N3
    rename IntsAre _ (List.take _ _) => hIt
    rename _ ∧ _ => hlt3
    rename 0 < _ => hpos
    try rw [show (0 + (i : Int)).toNat = i by omega] at hIt

    obtain ⟨k1, k2, k3, k4, k5, k6, k7⟩ := hlt3
    have q110 := k33_ne110 hK33
    have l110 : @LT.lt Nat _ 110 s₁.heap.objs.size := by omega
    k_dflt (refine' reduce_u _ ((hH.objs.size, oI2) :: (lR, W.listOf vR.toArray 0) :: (lM, W.listOf vM.toArray 0) :: (s₁.heap.objs.size + 1, oC) :: t33) ps2 hps2 _ _ 0 (rs.take i) hIt ?hl _ 0 _ _ _ _ _ _ _ _ _ _ _ _ _ _ _ _ _ _ _ _ _ _ (C2 _ rfl) F3 CH ?N ?hn ?hs ?hd ?hu ?h0 ?_)
    case hl => rw [List.length_take]; omega
    case N =>
      (repeat (refine pickN N3 (by k_mem) ?_)); exact fun p hp => N3 p (by repeat (first | exact hp | apply List.Mem.tail))
    case hn =>
      (repeat (refine List.forall_mem_cons.mpr ⟨by (refine neG ?_; (try dsimp only); omega), ?_⟩))
      exact q110
    case hs =>
      (repeat (refine List.forall_mem_cons.mpr ⟨by first | exact k1 | exact k2 | exact k3 | exact k4 | exact k5 | exact k6, ?_⟩))
      exact allLt_lt k7
    case hd => decide
    case hu => decide +kernel
    case h0 => exact hpos
    k_whole
    intro l4 vs4 n4 ps4 g4 h4 tk4 gs4 hg4 hvs4 hps4 hlt4 Rb4 F4 N4
    clear F3 N3
    have C4 := fun cs' hc => (C2 cs' hc).reb Rb4
    have X4 := (C4 { (default : Scope) with kind := .function } rfl).X
    have T4 := (C4 { (default : Scope) with kind := .function } rfl).T
    have B4 := (C4 { (default : Scope) with kind := .function } rfl).B
    clear X2 T2 B2
    k_lt hlt4
    k_steps
    refine Stp.to ?_
    rename News _ _ _ _ => N5
    rename Fr _ _ _ _ => F5
    k_dflt (refine' filter_u _ ((110, tabObj ps4) :: (hH.objs.size, oI2) :: (lR, W.listOf vR.toArray 0) :: (s₁.heap.objs.size + 1, oC) :: t33) _ _ vM vs4 (Eng.rotL t) _ hNm hvs4 0 n4 _ _ _ _ _ _ _ _ _ _ _ _ _ _ _ _ _ _ _ _ _ _ (C4 _ rfl) F5 ?N ?hd ?hu ?fit ?_)
    case N =>
      (repeat (refine pickN N5 (by k_mem) ?_)); exact fun p hp => N5 p (by repeat (first | exact hp | apply List.Mem.tail))
    case hd => decide
    case hu => decide +kernel
    case fit => rw [rot_len]; decide
    k_whole
    intro l5 vs5 n5 g5 h5 tk5 hlt5 hvs5 Rb5 F6 N6
    clear F5 N5
    rw [filt_told _ (rl_ok _)] at hvs5
    have C5 := fun cs' hc => (C4 cs' hc).reb Rb5
    have X5 := (C5 { (default : Scope) with kind := .function } rfl).X
    have T5 := (C5 { (default : Scope) with kind := .function } rfl).T
    have B5 := (C5 { (default : Scope) with kind := .function } rfl).B
    clear X4 T4 B4
    k_lt hlt5
    have nC := hK33.1

    with_reducible repeat (rename Mark9 => zz; clear zz)
    k_steps
    refine Stp.to ?_
    rename News _ _ _ _ => N7
    rename Fr _ _ _ _ => F7
    with_reducible rename IntsAre _ (List.take _ _) => hIt2
    try rw [show (0 + (i : Int)).toNat = i by omega] at hIt2
    k_dflt (refine' law_left _ ((l5, W.listOf vs5.toArray n5) :: (l4, W.listOf vs4.toArray n4) :: (110, tabObj ps4) :: (hH.objs.size, oI2) :: (lR, W.listOf vR.toArray 0) :: (s₁.heap.objs.size + 1, oC) :: t33) _ vM 0 (Eng.rotL t) hNm (rot_mem t) ?l1 _ _ 0 (rs.take i) hIt2 ?l2 _ _ _ _ _ _ _ _ _ _ _ _ _ _ _ _ _ _ _ _ _ _ B5 F7 X5 ?N T5 ?hk ?hd ?hu ?_)
    case l1 => rw [rot_len]; exact Nat.le_refl _
    case l2 => rw [List.length_take]; omega
    case hk => rfl
    case N =>
      (repeat (refine pickN N7 (by k_mem) ?_)); exact fun p hp => N7 p (by repeat (first | exact hp | apply List.Mem.tail))
    case hd => decide
    case hu => decide +kernel
    k_whole
    intro l6 vs6 n6 h6 tk6 hvs6 hlt6 F8 N8
    clear F7 N7
    k_lt hlt6
    k_steps
    refine Stp.to ?_
    rename Fr _ _ _ _ => F9
    refine LCg.ListComp_U F9 (cl := ?cl) ?h1 ?h2 ?h3 ?h4 ?h5 ?_ ?h7
    case h2 => decide
    case h3 => rfl
    case h4 => decide
    case h5 => rfl
    case h7 => intro _; rfl
    case h1 => rfl
    k_steps
    refine Stp.to ?_
    with_reducible rename (_ = Data.cell (some _)) => dO
    with_reducible rename Obj => oC3
    rename IsRange _ _ _ _ _ _ _ _ => hRg
    rename Fr _ _ _ _ => FA
    rename News _ _ _ _ => NA
    obtain ⟨NB, hNB⟩ := name_news NA
    rw [← hNB] at NA
    have hl8 := filt_len t (toldB ((rs.take i).map rlOf))
    have hSL := Eng.sort_law ht8 (toldB ((rs.take i).map rlOf))
    have hpn := Eng.perm_len ht8 (toldB ((rs.take i).map rlOf))
    have hsub := rot_sub (t := t) (f := toldB ((rs.take i).map rlOf))
    generalize (Eng.rotL t).filter (toldB ((rs.take i).map rlOf)) = xs at hvs5 hvs6 hSL hpn hsub hl8 hRg
    obtain ⟨z3, z4⟩ := rng9 _ (Nat.lt_of_le_of_lt hl8 (by decide))
    have hk110 : @LT.lt Nat _ 110 l6 := by omega
    refine LCg.CompSrc.range (by rfl) FA NA hRg z3 z4 (Nat.le_trans hl8 (by decide +kernel)) (fun g9 => comp_indU (fun k9 ys nw => ∃ LED, nw = LED ++ NB ∧ Eng.Tups ys ((Eng.endP xs).take k9) LED ∧ (∀ q ∈ LED, @LT.lt Nat _ 110 q.1)) ⟨[], rfl, .nil, fun _ h => nomatch h⟩ ?cs ?cf)
    case cs =>
      intro k9 i9 ys nw9 hi9 hI9 hrest9
      obtain ⟨LED, rfl, hTu, hLo⟩ := hI9
      refine LCg.CompRest.succ ?_
      intro v9 I3 oI3 C3 oC3' D3 mC h9 tk9 E9 hv9 hC9 hx9 F9 N9 off9 ne9
      obtain ⟨tv9, rfl⟩ := hv9
      rw [Int.zero_add] at hx9
      obtain ⟨x, hx⟩ : ∃ x, xs[i9]? = some x := ⟨_, List.getElem?_eq_getElem hi9⟩
      have hxn := hsub x (List.mem_of_getElem? hx)
      have N10 : News g5 s₁.heap.objs.size h9 ((I3, oI3) :: (C3, oC3') :: (D3, LCg.lst ys) :: (l6, W.listOf vs6.toArray n6) :: (s₁.heap.objs.size + 1, oC3) :: (110, tabObj ps4) :: (LED ++ NB)) := by
        obtain ⟨NL, NN⟩ := news_cut3 N9
        rw [hNB] at NN
        exact pickN N9 (.head _) (pickN N9 (.tail _ (.head _)) (pickN N9 (.tail _ (.tail _ (.head _))) (pickN NN (by k_mem) (pickN NN (by k_mem) (pickN NN (by k_mem) NL)))))
      clear N9 FA NA
      k_steps
      refine Stp.to ?_
      rw [show xs.getD ((i9 : Int)).toNat Str.empty = x by rw [show ((i9 : Int)).toNat = i9 by omega, List.getD_eq_getElem?_getD, hx]; rfl]
      rename Fr _ _ _ _ => F11
      rename News _ _ _ _ => N11
      k_dflt (refine' law_ending hxn B5 F11 X5 N11 T5 ?hk ?hd ?hu ?_)
      case hk => rfl
      case hd => decide
      case hu => decide +kernel
      k_whole
      intro h12 t12 tk12 F12 N12
      clear F11 N11
      k_steps
      rename News _ _ _ _ => N13
      rename Fr _ _ _ _ => F13
      have etk : (Eng.endP xs).take (i9 + 1) = (Eng.endP xs).take i9 ++ [(endS x, (i9 : Int))] := by rw [List.take_add_one, endP_at hx]; rfl
      refine LCg.CompEnd.intro F13 N13 (_ :: (LED ++ NB)) sub9 ⟨⟨?o1, ?o2, ?o3⟩, off9⟩ trivial (hrest9 _ _ ⟨_ :: LED, rfl, ?tup, List.forall_mem_cons.mpr ⟨?lo, hLo⟩⟩)
      case tup => rw [etk]; exact .snoc hTu
      all_goals ((try dsimp only); omega)
    case cf =>
      intro ys nw9 hI9
      obtain ⟨LED, rfl, hTu, hLo⟩ := hI9
      intro D9 hA9 tkA9 FA9 NA9 oA
      clear FA NA
      have hED : ((Eng.endP xs).take xs.length) = Eng.endP xs := List.take_of_length_le (by rw [endP_len]; exact Nat.le_refl _)
      rw [hED] at hTu
      have NA := NA9
      clear NA9
      k_steps
      refine Stp.to ?_
      rename Fr _ _ _ _ => F13
      k_dflt (refine' Eng.sorted_TA _ _ LED _ ys xs hTu hl8 hSL.2.1 _ _ _ _ _ _ _ F13 NA ?ht ?hl ?_)
      case ht => intro q hq; exact .tail _ (List.mem_append.mpr (.inl hq))
      case hl => exact ⟨_, (NA _ (.head _)).1, rfl, _, rfl⟩
      k_whole
      intro D14 c14 h14 tk14 F14 N14 hD14
      clear F13 NA
      have N15 : News g5 s₁.heap.objs.size h14 ((D14, W.listOf (List.toArray ((Eng.permT xs).map fun i => ys.getD i Value.none)) c14) :: (l6, W.listOf vs6.toArray n6) :: (l5, W.listOf vs5.toArray n5) :: (s₁.heap.objs.size + 1, oC3) :: (110, tabObj ps4) :: (hH.objs.size, oI2) :: (lR, W.listOf vR.toArray 0) :: (lM, W.listOf vM.toArray 0) :: (LED ++ t33)) := by
        obtain ⟨NL, NN⟩ := news_cut2 N14
        rw [hNB] at NN
        refine pickN N14 (.head _) ?_
        (repeat (refine pickN NN (by k_mem) ?_))
        exact news_app NL fun p hp => NN p (by repeat (first | exact hp | apply List.Mem.tail))
      clear N14
      k_steps
      refine Stp.to ?_
      rename News _ _ _ _ => N16
      k_dflt (refine' ne_same N16 (.tail _ (.tail _ (.head _))) (.tail _ (.head _)) hvs5 hvs6 hsub ?_ ?_)
      · decide +kernel
      k_whole
      k_steps
      refine Stp.to ?_
      rename Fr _ _ _ _ => F17
      rename News _ _ _ _ => N17
      k_dflt (refine' cmp_any _ _ _ t33 ((D14, W.listOf (List.toArray ((Eng.permT xs).map fun i => ys.getD i Value.none)) c14) :: (l6, W.listOf vs6.toArray n6) :: (l5, W.listOf vs5.toArray n5) :: (s₁.heap.objs.size + 1, oC3) :: (110, tabObj ps4) :: (hH.objs.size, oI2) :: (lR, W.listOf vR.toArray 0) :: (lM, W.listOf vM.toArray 0) :: LED) hK33 _ _ _ _ _ _ _ _ _ _ _ _ _ _ _ _ _ _ _ _ _ _ B5 F17 X5 XE ?N ?h33 T5 ?hk ?hd ?hu ?hd2 ?hu2 ?_)
      case N =>
        refine news_app (fun p hp => N17 p (by repeat (first | exact List.mem_append_right _ hp | apply List.Mem.tail))) ?_
        (repeat (refine pickN N17 (by k_mem) ?_))
        exact fun p hp => N17 p (by repeat (first | exact List.mem_append_left _ hp | apply List.Mem.tail))
      case h33 =>
        intro q hq
        simp only [List.mem_cons] at hq
        have gd := hD14 (l6, W.listOf vs6.toArray n6) (by rw [hNB]; first | exact .tail _ (List.mem_append_right _ (.head _)) | exact List.mem_append_right _ (.head _) | simp)
        rcases hq with rfl | rfl | rfl | rfl | rfl | rfl | rfl | rfl | hq
        all_goals first | (have := hLo _ hq; show @Ne Nat _ 33; omega) | (have gd' : @LT.lt Nat _ l6 D14 := gd; show @Ne Nat _ 33; (try dsimp only); omega)
      case hk => rfl
      case hd => decide
      case hu => decide +kernel
      case hd2 => decide
      case hu2 => decide +kernel
      k_whole
      intro qn qt qL cell C18 ns p18 fI fL cI cL oCl oN oP oI18 oL18 oci ocl occ h18 tk18 KG F18 N18
      clear F17 N17
      k_steps
      refine Stp.to ?_
      have hpK := strsAre_perm hvs5 (Eng.permK xs) hSL.2.2.2.1
      k_dflt (refine' Eng.sorted_KA _ _ cell C18 ns p18 fI fL cI cL oCl oN oP oI18 oL18 oci ocl occ l5 n5 vs5 xs hvs5 hsub hl8 hSL.1 _ _ _ _ _ _ _ _ _ _ _ _ _ _ _ _ _ _ _ _ _ _ B5 F18 X5 N18 T5 ?hk ?hd ?hu (KG.Z _) ?mc KG.hc ?ml ?_)
      case hk => rfl
      case hd => decide
      case hu => decide +kernel
      case mc => exact List.mem_append_right _ (List.mem_append_right _ (.head _))
      case ml => exact List.mem_append_right _ (List.mem_append_right _ (by k_mem))
      k_whole
      intro D19 c19 h19 tk19 F19 N19 hD19
      obtain ⟨vK, hvK⟩ : ∃ vK, vK = (Eng.permK xs).map fun i => vs5.getD i Value.none := ⟨_, rfl⟩
      rw [← hvK] at N19 hpK
      obtain ⟨vO, hvO⟩ : ∃ vO, vO = (Eng.permT xs).map fun i => ys.getD i Value.none := ⟨_, rfl⟩
      have N20 : News g5 s₁.heap.objs.size h19 ((D19, W.listOf vK.toArray c19) :: (D14, W.listOf vO.toArray c14) :: (l6, W.listOf vs6.toArray n6) :: (s₁.heap.objs.size + 1, oC3) :: (110, tabObj ps4) :: (hH.objs.size, oI2) :: (lR, W.listOf vR.toArray 0) :: (lM, W.listOf vM.toArray 0) :: (LED ++ Eng.tabL w.params qn qt qL)) := by
        obtain ⟨NR, NT⟩ := news_cut N19
        rw [← hvO] at NR
        refine pickN N19 (.head _) ?_
        (repeat (refine pickN NR (by k_mem) ?_))
        exact news_app (fun p hp => NR p (by repeat (first | exact hp | apply List.Mem.tail))) NT
      clear N19 N18 F18
      obtain ⟨TL, hTL⟩ : ∃ TL, TL = LED ++ Eng.tabL w.params qn qt qL := ⟨_, rfl⟩
      rw [← hTL] at N20
      k_steps
      refine Stp.to ?_
      rename Fr _ _ _ _ => F20
      refine LCg.ListComp_U F20 (cl := ?cl) ?h1 ?h2 ?h3 ?h4 ?h5 ?_ ?h7
      case h2 => decide
      case h3 => rfl
      case h4 => decide
      case h5 => rfl
      case h7 => intro _; rfl
      case h1 => rfl
      k_steps
      refine Stp.to ?_
      rename Fr _ _ _ _ => F21
      rename News _ _ _ _ => N21
      have hpl : (Eng.permT xs).length = vO.length := by rw [hvO, List.length_map]
      have hbT := hSL.2.2.2.2
      have hLE : ∀ q ∈ LED, q ∈ TL := fun q hq => by rw [hTL]; exact List.mem_append.mpr (.inl hq)
      refine LCg.CompSrc.ledger (by rfl) F21 N21 (.tail _ (.head _)) ?sz (fun g9 => comp_indU (fun k9 zs nw => nw = ((D19, W.listOf vK.toArray c19) :: (D14, W.listOf vO.toArray c14) :: (l6, W.listOf vs6.toArray n6) :: (s₁.heap.objs.size + 1, oC3) :: (110, tabObj ps4) :: (hH.objs.size, oI2) :: (lR, W.listOf vR.toArray 0) :: (lM, W.listOf vM.toArray 0) :: TL) ∧ StrsAre zs (((Eng.permT xs).take k9).map fun i => xs.getD i (Str.ofString ""))) ⟨rfl, .nil⟩ ?cs2 ?cf2)
      case sz => rw [List.size_toArray, ← hpl]; exact Nat.le_trans hpn (by decide +kernel)
      case cs2 =>
        intro k9 i9 zs nw9 hi9 hI9 hrest9
        obtain ⟨rfl, hzs⟩ := hI9
        refine LCg.CompRest.succ ?_
        intro v9 I3 oI3 C3 oC3' D3 mC h9 tk9 E9 hv9 hC9 hx9 F9 N9 off9 ne9
        obtain ⟨pi, hpi⟩ : ∃ pi, (Eng.permT xs)[i9]? = some pi := ⟨_, List.getElem?_eq_getElem (by rw [hpl]; simpa using hi9)⟩
        have hpb := hbT pi (List.mem_of_getElem? hpi)
        have hyl : ys.length = xs.length := hTu.len.trans (endP_len xs)
        obtain ⟨xa, e, te, k, u, hg9, he9, hm9⟩ := hTu.at (i := pi) (by rw [hyl]; exact hpb)
        have hxp : xs[pi]? = some (xs.getD pi (Str.ofString "")) := by rw [List.getD_eq_getElem?_getD, List.getElem?_eq_getElem hpb]; rfl
        have hk9 : k = (pi : Int) := by
          have := he9.symm.trans (endP_at hxp)
          cases this; rfl
        subst hk9
        have hv9' : v9 = .ref xa := by
          have q : vO[i9]? = some v9 := by simpa using hv9
          rw [hvO, List.getElem?_map, hpi] at q
          exact (Option.some.inj q).symm.trans hg9
        subst hv9'
        have N10 : News g5 s₁.heap.objs.size h9 ((I3, oI3) :: (C3, oC3') :: (D3, LCg.lst zs) :: (xa, Eng.tupO e te (pi : Int) u) :: (D19, W.listOf vK.toArray c19) :: (D14, W.listOf vO.toArray c14) :: (l6, W.listOf vs6.toArray n6) :: (s₁.heap.objs.size + 1, oC3) :: (110, tabObj ps4) :: (hH.objs.size, oI2) :: (lR, W.listOf vR.toArray 0) :: (lM, W.listOf vM.toArray 0) :: TL) := by
          have NT : News g5 s₁.heap.objs.size h9 TL := fun p hp => N9 p (by repeat (first | exact hp | apply List.Mem.tail))
          refine pickN N9 (.head _) (pickN N9 (.tail _ (.head _)) (pickN N9 (.tail _ (.tail _ (.head _))) (pickN NT (hLE _ hm9) ?_)))
          (repeat (refine pickN N9 (by k_mem) ?_))
          exact NT
        clear N9 F21 N21
        unfold Eng.tupO at N10
        k_steps
        rename News _ _ _ _ => N13
        rename Fr _ _ _ _ => F13
        have esg : xs.getD ((pi : Int)).toNat Str.empty = xs.getD pi (Str.ofString "") := by rw [Int.toNat_natCast]; rfl
        have etk : ((Eng.permT xs).take (i9 + 1)).map (fun i => xs.getD i (Str.ofString "")) = ((Eng.permT xs).take i9).map (fun i => xs.getD i (Str.ofString "")) ++ [xs.getD ((pi : Int)).toNat Str.empty] := by rw [esg, List.take_add_one, hpi, List.map_append]; rfl
        exact LCg.CompEnd.intro F13 N13 _ sub4 off9 (.inr ⟨_, .tail _ (.head _), rfl, _, rfl⟩) (hrest9 _ _ ⟨rfl, by rw [etk]; exact strsAre_snoc hzs⟩)
      case cf2 =>
        intro zs nw9 hI9
        obtain ⟨rfl, hzs⟩ := hI9
        intro D21 h21 tk21 F22 N22 oA
        clear F21 N21
        rw [List.take_of_length_le (by rw [hpl]; simp)] at hzs
        k_steps
        refine Stp.to ?_
        rename Fr _ _ _ _ => F23
        rename News _ _ _ _ => N23
        rw [← hSL.2.2.1] at hzs
        k_dflt (refine' ne_same N23 (.tail _ (.head _)) (.head _) hpK hzs ?_ ?_ ?_)
        · intro x hx
          obtain ⟨j, hj, rfl⟩ := List.mem_map.mp hx
          exact hsub _ (getD_mem (hSL.2.2.2.1 j hj))
        · decide +kernel
        k_whole
        k_steps
        show TurnEnd _ _ _ _ _ _ _
        rename Fr _ _ _ _ => F24
        rename News _ _ _ _ => N24
        obtain ⟨w1, w2, w3, m9, F25⟩ := fr5 (a := Str.ofString "count") (b := Str.ofString "left") (c := Str.ofString "order") (d := Str.ofString "names") (e := Str.ofString "rules") (v4 := some (Value.ref lM)) (v5 := some (Value.ref lR)) F24 rfl rfl
        clear F24
        have hTs : ∀ p ∈ Eng.tabL w.params qn qt qL, p ∈ TL := fun p hp => by rw [hTL]; exact List.mem_append.mpr (.inr hp)
        have hTa : ∀ p ∈ Eng.tabL w.params qn qt qL, p ∈ (D21, LCg.lst zs) :: (D19, W.listOf vK.toArray c19) :: (D14, W.listOf vO.toArray c14) :: (l6, W.listOf vs6.toArray n6) :: (s₁.heap.objs.size + 1, oC3) :: (110, tabObj ps4) :: (hH.objs.size, oI2) :: (lR, W.listOf vR.toArray 0) :: (lM, W.listOf vM.toArray 0) :: TL := fun p hp => .tail _ (.tail _ (.tail _ (.tail _ (.tail _ (.tail _ (.tail _ (.tail _ (.tail _ (hTs p hp)))))))))
        have hnc := tab_ne N24 hTa (N24 (s₁.heap.objs.size + 1, oC3) (.tail _ (.tail _ (.tail _ (.tail _ (.head _)))))).1 (.inl (by rw [dO]; rfl))
        have hnr := tab_ne N24 hTa (N24 (hH.objs.size, oI2) (.tail _ (.tail _ (.tail _ (.tail _ (.tail _ (.tail _ (.head _)))))))).1 (.inr hrng)
        refine TurnEnd.intro ((lR, W.listOf vR.toArray 0) :: (lM, W.listOf vM.toArray 0) :: (s₁.heap.objs.size + 1, oC3) :: (110, tabObj ps4) :: Eng.tabL w.params qn qt qL) ?g F25 N24 (.tail _ (.tail _ (.tail _ (.tail _ (.tail _ (.tail _ (.head _))))))) ?sb ?of (fun p hp => nomatch hp)
          (.mk w1 w2 w3 m9 oC3 _ ps4 (Eng.tabL w.params qn qt qL) hps4 dO (Rb.trans (Rb4.trans Rb5)) ⟨hnc, .inr ⟨qn, qt, qL, KG.lo, rfl⟩⟩)
        case g => exact hg4
        case sb =>
          refine List.forall_mem_cons.mpr ⟨by k_mem, List.forall_mem_cons.mpr ⟨by k_mem, List.forall_mem_cons.mpr ⟨by k_mem, List.forall_mem_cons.mpr ⟨by k_mem, hTa⟩⟩⟩⟩
        case of =>
          refine List.forall_mem_cons.mpr ⟨?_, List.forall_mem_cons.mpr ⟨?_, List.forall_mem_cons.mpr ⟨?_, List.forall_mem_cons.mpr ⟨?_, hnr⟩⟩⟩⟩
          all_goals (refine neG ?_; (try dsimp only); omega)
  · intro g2 m2 nw2 h2 tk2 gs2 hK hle2 hg2 F2 N2
    obtain ⟨u1, u2, u3, m0, oC, xC, ps2, t33, hps2, dC2, Rb, hK33⟩ := hK
    clear F7 N7 hlt8
    k_steps
    show EndT _ _ (.ok (.ret _)) _
    refine ⟨⟨_, rfl, rfl⟩, fun b o e => ?_, rfl, hg2 (AllBare.of_eq hg), ⟨ps2, (N2 _ (.tail _ (.tail _ (.tail _ (.head _))))).1⟩, ?_, trivial⟩
    · exact F2.keep b o ((Rb.out b (fun q => nomatch q)).trans e)
    · rcases hK33.2 with ⟨_, rfl⟩ | ⟨qn, qt, qL, lo, rfl⟩
      · exact ⟨#[], (N2 _ (.tail _ (.tail _ (.tail _ (.tail _ (.head _)))))).1⟩
      · exact ⟨_, (N2 _ (.tail _ (.tail _ (.tail _ (.tail _ (.head _)))))).1.trans (congrArg some (tab_head _ _ _ _))⟩)
end Mine
end
theorem PySem.Challenge.cw_il0016_01_holds : PySem.Challenge.rw_il0016_01.Holds := by
  exact Mine.main0
