import PyProof.Rows.All
import Wide.All
import OpenK.AllK
import Wide.FinOn
import PySem.Challenge.RW_il0026_01
set_option Elab.async false

section
open PySem PySem.W PyProof.Rows
set_option maxRecDepth 100000
set_option maxHeartbeats 8000000
namespace Mine
open_top hd for PySem.Challenge.rw_il0026_01
end Mine
end

section
open PySem PySem.W PyProof.Rows PySem.Calls
set_option maxRecDepth 100000
set_option maxHeartbeats 4000000
namespace Mine

theorem gmem {env : Env} {L b : Addr} {outer : List Env} (hf : env.frame = some L) (hm : b ∈ (env :: outer).filterMap (·.frame)) : b = L ∨ b ∈ outer.filterMap (·.frame) := by
  obtain ⟨env', he, hf'⟩ := List.mem_filterMap.mp hm
  rcases List.mem_cons.mp he with rfl | he
  · exact .inl (Option.some.inj (hf.symm.trans hf')).symm
  · exact .inr (List.mem_filterMap.mpr ⟨env', he, hf'⟩)

section
variable {M : Model} {A : Around} {E : Value → Shared → Prop} {s' : Shared} {base g g₂ h : Heap} {outer : List Env} {env : Env} {L e t : Addr} {m : Str → Option Value} {Q : Unit → Shared → Prop} {news : List (Addr × Obj)}

theorem gleave_onS {cls : Value} {vs : List Value} (hfr : A.frames = some (env :: outer)) (hf : env.frame = some L) (F : Fr g L g₂ m) (R : RaisedS base g₂ (env :: outer) e cls t vs news s'.heap) (hsm : g₂.UpToSlots s'.heap)
    (hQ : ∀ h', RaisedS base g outer e cls t vs news h' → g.UpToSlots h' → Q () { s' with heap := h' }) :
    wpAny M A (leaving env (.ref e)) Q E s' := by
  obtain ⟨⟨B, hB, hBG, hl, hfl, hnew⟩, htup⟩ := R
  exact wpAny_leaves_onW hfr hf hfl fun h' x1 x2 =>
    hQ h' ⟨⟨B, hB, fun b o q nm => hBG b o (F.keep b o q) (fun hm => by
      rcases gmem hf hm with z | z
      · rw [z, kts_self F] at q
        cases q
      · exact nm z), fun q hq => ⟨(hl q hq).1, kts_none F.keep (hl q hq).2.1, (hl q hq).2.2⟩, x1, hnew⟩, htup.of_slots x2⟩ ((Heap.UpToSlots.of_keeps F.keep).trans (hsm.trans x2))
end

def LeaveG (A₀ : Around) (base : Heap) (outer : List Env) (env : Env) (h₀ : Heap) (L : Addr) (m : Str → Option Value) (g : Heap) (R : Result → Shared → Prop) (v : Value) (s' : Shared) : Prop :=
  ∃ g' L' m' news', KtsTurn ((env :: outer).filterMap (·.frame)) g g' ∧ Fr g' L' s'.heap m' ∧ News g' L' s'.heap news' ∧
    ∀ h₀', KtsTurn (outer.filterMap (·.frame)) h₀ h₀' → Fr h₀' L s'.heap m → News h₀' L s'.heap news' → Below A₀ base outer h₀' → KtsDicts (outer.filterMap (·.frame)) h₀' → R (.ok (.ret v)) s'

section
variable {prog : Program} {w : World} {A₀ A : Around} {s : Shared} {base h₀ : Heap} {outer : List Env} {L : Addr} {m : Str → Option Value} {env : Env} {news : List (Addr × Obj)}
  {R : Result → Shared → Prop} {name qual : Str} {params : Arguments} {body : List Stmt} {scope : Scope} {cl : List (Str × Addr)} {dV kV doc pm cdv ct : Value} {an : Option Addr} {fo : Obj} {f : Addr} {args : Args} {binds : List (Str × Value)}

theorem genter (B : Below A₀ base outer h₀) (F : Fr h₀ L s.heap m) (N : News h₀ L s.heap news) (D : KtsDicts (outer.filterMap (·.frame)) h₀) (hA : A.frames = some (env :: outer)) (hf : env.frame = some L) (hke : env.scope.kind = .function) :
    Fr h₀ L (hideAll s.heap (news.map (·.1))) m ∧ Below A base (env :: outer) (hideAll s.heap (news.map (·.1))) ∧ h₀.StaysIn (hideAll s.heap (news.map (·.1))) ∧ KtsDicts ((env :: outer).filterMap (·.frame)) (hideAll s.heap (news.map (·.1))) ∧
      ∀ v s', LeaveG A₀ base outer env h₀ L m (hideAll s.heap (news.map (·.1))) R v s' → R (.ok (.ret v)) s' := by
  obtain ⟨FG, BG, st, _⟩ := groundX (R := R) B F N hA hf hke
  have nL₀ : h₀.get? L = none := kts_self F
  obtain ⟨oL, es, ep, hL, hLd, hLk, hLf⟩ := FG.ns
  refine ⟨FG, BG, st, fun b hb => ?_, fun v s' hl => ?_⟩
  · rcases gmem hf hb with rfl | hb
    · exact ⟨oL, es, ep, hL, hLd⟩
    · obtain ⟨o, es', n', ho', hd'⟩ := D b hb
      exact ⟨o, es', n', st b o ho', hd'⟩
  · obtain ⟨g', L', m', news', T', F', N', k⟩ := hl
    obtain ⟨sl, hs⟩ := T'.up hL
    obtain ⟨T₁, S₁⟩ := kts_turn_at (h := s'.heap) (fs := outer.filterMap (·.frame)) (g := h₀)
      (fun b hb => by
        obtain ⟨_, o, ho', _⟩ := B.frames.mem hb
        exact ⟨o, ho'⟩)
      (fun b o e nmem => F'.keep b o (T'.other b o (st b o e) (fun q => by
        rcases gmem hf q with z | z
        · rw [z, nL₀] at e
          cases e
        · exact nmem z)))
      (fun b o e hm => by
        obtain ⟨sl', hs'⟩ := T'.up (st b o e)
        exact ⟨sl', F'.keep _ _ hs'⟩)
    have B₃ : Below A₀ base outer (ktsHeap s'.heap (outer.filterMap (·.frame)) h₀) := ⟨B.stack, fun b o e => T₁.other b o (B.stays b o e) (fun hm => by
      rw [(B.frames.mem hm).1] at e
      cases e), B.frames.of_keeps fun b o e _ => by
      obtain ⟨sl', hs'⟩ := T₁.up e
      exact ⟨_, hs', rfl⟩⟩
    refine k _ T₁ ⟨⟨_, es, ep, F'.keep _ _ hs, hLd, hLk, hLf⟩, S₁, by rw [T₁.size]; exact F.above⟩ (fun p hp => ⟨(N' p hp).1, fun q => ?_, ?_⟩) B₃ (D.turn T₁)
    · have := (N' p hp).2.2; rw [q, hs] at this; cases this
    · refine T₁.none_ _ ?_
      cases q : h₀.get? p.1 with
      | none => rfl
      | some o =>
        obtain ⟨sl', hs'⟩ := T'.up (st _ _ q)
        have := (N' p hp).2.2
        rw [hs'] at this
        cases this

theorem gcall_plain (B : Below A₀ base outer h₀) (F : Fr h₀ L s.heap m) (N : News h₀ L s.heap news) (D : KtsDicts (outer.filterMap (·.frame)) h₀) (hlim : h₀.NoLimit) (hA : A.frames = some (env :: outer)) (hf : env.frame = some L) (hke : env.scope.kind = .function)
    (ho : s.heap.get? f = some fo) (hd : fo.data = .func (fnX name qual params body scope cl dV kV doc pm an cdv ct)) (hcd : s.heap.CodeRec cdv qual) (hroom : A.depth < recursionLimit)
    (hbind : BindsTo s (fnX name qual params body scope cl dV kV doc pm an cdv ct) args binds) (hloc : ∀ y ∈ binds, scope.names.lookup y.1 = some .local)
    (h : ∀ g L' h₁, Fr h₀ L g m → Fr g L' h₁ (fun y => binds.reverse.lookup y) → News g L' h₁ news → Below A base (env :: outer) g → h₀.StaysIn g → KtsDicts ((env :: outer).filterMap (·.frame)) g → (∀ p ∈ news, p.1 < L') → (∀ b o, s.heap.get? b = some o → b ∉ news.map (·.1) → g.get? b = some o) →
      wpAny (model prog w) (A.deeper (envX qual scope L' f cdv cl)) (execs body (envX qual scope L' f cdv cl))
        (fun fl s' => LeaveG A₀ base outer env h₀ L m g R (match fl with | .ret v => v | _ => .none) s')
        (fun e s' => wpAny (model prog w) (A.deeper (envX qual scope L' f cdv cl)) (leaving (envX qual scope L' f cdv cl) e) (fun _ s'' => R (.error e) s'') (fun e' s'' => R (.error e') s'') s')
        { s with heap := h₁, toks := s.toks + binds.length })
    (hcell : ∀ x ∈ scope.names, x.2 ≠ .cell) (hco : scope.isCoroutine = false := by rfl) (hgen : scope.isGenerator = false := by rfl) (hk : scope.kind = .function := by rfl) : codeAny (model prog w) A (.call (.ref f) args) R s := by
  obtain ⟨FG, BG, st, DG, lv⟩ := genter (R := R) B F N D hA hf hke
  refine codeAny_call_def (fd := fnX name qual params body scope cl dV kV doc pm an cdv ct) (body := body) (binds := binds) hroom ho hd (hlim.keeps F.keep) hcd rfl hbind hcell hloc (fun h₁ hns hk₁ => ?_) hco hgen hk
  exact wpAny_mono (h _ s.heap.objs.size h₁ FG ⟨hns, fun b o e => hk₁ b o (of_hideAll _ e), Nat.le_of_eq (hideAll_size _ _)⟩
    (fun p hp => ⟨hk₁ _ _ (N p hp).1, Nat.ne_of_lt (Heap.lt_size (N p hp).1), hideAll_none _ (List.mem_map_of_mem hp)⟩) BG st DG (fun p hp => Heap.lt_size (N p hp).1) (fun b o e n => hideAll_get _ e n)) (fun fl s' hl => lv _ _ hl) fun _ _ y => y

theorem gcall_cells (B : Below A₀ base outer h₀) (F : Fr h₀ L s.heap m) (N : News h₀ L s.heap news) (D : KtsDicts (outer.filterMap (·.frame)) h₀) (hlim : h₀.NoLimit) (hA : A.frames = some (env :: outer)) (hf : env.frame = some L) (hke : env.scope.kind = .function)
    (ho : s.heap.get? f = some fo) (hd : fo.data = .func (fnX name qual params body scope [] dV kV doc pm an cdv ct)) (hcd : s.heap.CodeRec cdv qual) (hroom : A.depth < recursionLimit)
    (hbind : BindsTo s (fnX name qual params body scope [] dV kV doc pm an cdv ct) args binds)
    (hkind : ∀ n, ∀ x ∈ binds, scope.names.lookup x.1 = some .local ∨ (scope.names.lookup x.1 = some .cell ∧ ((cellsFrom n scope.names []).lookup x.1).isSome = true))
    (hnd : ((cellsFrom 0 scope.names []).map (·.1)).Nodup)
    (h : ∀ g L' h₁ tk cells, Fr h₀ L g m → Fr g L' h₁ (bindL (envOfC qual scope L' f cdv).kindOf binds fun _ => none) → News g L' h₁ (cells ++ news) →
      CellsAre (bindC (envOfC qual scope L' f cdv).kindOf binds fun _ => none) (cellsFrom (L' + 1) scope.names []) cells → Below A base (env :: outer) g → h₀.StaysIn g → KtsDicts ((env :: outer).filterMap (·.frame)) g → (∀ p ∈ news, p.1 < L') → (∀ b o, s.heap.get? b = some o → b ∉ news.map (·.1) → g.get? b = some o) →
      wpAny (model prog w) (A.deeper (envOfC qual scope L' f cdv)) (execs body (envOfC qual scope L' f cdv))
        (fun fl s' => LeaveG A₀ base outer env h₀ L m g R (match fl with | .ret v => v | _ => .none) s')
        (fun e s' => wpAny (model prog w) (A.deeper (envOfC qual scope L' f cdv)) (leaving (envOfC qual scope L' f cdv) e) (fun _ s'' => R (.error e) s'') (fun e' s'' => R (.error e') s'') s')
        { s with heap := h₁, toks := tk })
    (hco : scope.isCoroutine = false := by rfl) (hgen : scope.isGenerator = false := by rfl) (hk : scope.kind = .function := by rfl) : codeAny (model prog w) A (.call (.ref f) args) R s := by
  obtain ⟨FG, BG, st, DG, lv⟩ := genter (R := R) B F N D hA hf hke
  refine codeAny_call_function hroom ho hd hco hgen rfl hcd (hbind _ _ _ _ ?_)
  refine wpAny_newFunctionEnv_cells hk (hkind _) fun env' he s' x => ?_
  subst he
  refine ⟨(hlim.keeps F.keep).keeps x.toInCall.keep, codeAny_func ?_⟩
  obtain ⟨h₁, tk, rfl, _⟩ := x.done
  have hk₁ := x.toInCall.keep
  obtain ⟨cells, NC, Y⟩ := Cl.news (h₀ := s.heap) (Nat.le_refl _) fun n c hm => ⟨x.cell n c (lookup_of_mem_nodup (cellsFrom_names scope.names 0 (s.heap.objs.size + 1) [] [] rfl ▸ hnd) hm), x.above n c hm⟩
  refine wpAny_mono (h _ s.heap.objs.size h₁ tk cells FG ⟨x.toInCall.ns, fun b o e => hk₁ b o (of_hideAll _ e), Nat.le_of_eq (hideAll_size _ _)⟩ (fun p hp => ?_) Y BG st DG (fun p hp => Heap.lt_size (N p hp).1) (fun b o e n => hideAll_get _ e n)) (fun fl s' hl => lv _ _ hl) fun _ _ y => y
  rcases List.mem_append.mp hp with hp | hp
  · refine ⟨(NC p hp).1, (NC p hp).2.1, ?_⟩
    cases q : (hideAll s.heap (news.map (·.1))).get? p.1 with
    | none => rfl
    | some o => have := of_hideAll _ q; rw [(NC p hp).2.2] at this; cases this
  · exact ⟨hk₁ _ _ (N p hp).1, Nat.ne_of_lt (Heap.lt_size (N p hp).1), hideAll_none _ (List.mem_map_of_mem hp)⟩
end
end Mine
end

section
open PySem PySem.W PyProof.Rows PySem.Calls
set_option maxRecDepth 100000
set_option maxHeartbeats 4000000
namespace Mine

abbrev Key := Str ⊕ Int
def isKey : Key → Value → Bool
  | .inl x, v => Value.isStrOf x v
  | .inr k, v => Value.isInt k v
theorem isKey_shape {k : Key} {v : Value} (h : isKey k v = true) : (∃ x t, k = .inl x ∧ v = .str x t) ∨ ∃ i t, k = .inr i ∧ v = .int i t := by
  cases k with
  | inl x => obtain ⟨t, rfl⟩ := Value.isStrOf_shape h; exact .inl ⟨x, t, rfl, rfl⟩
  | inr i => obtain ⟨t, rfl⟩ := Value.isInt_shape h; exact .inr ⟨i, t, rfl, rfl⟩
def mixKind (prog : Program) (w : World) : KeyKind prog w Key where
  is := isKey
  hash := fun k => match k with | .inl x => hashStr w x | .inr i => hashInt i
  inj := fun v a b ha hb => by
    rcases isKey_shape ha with ⟨x, t, rfl, rfl⟩ | ⟨i, t, rfl, rfl⟩
    · rcases isKey_shape hb with ⟨y, u, rfl, e⟩ | ⟨j, u, rfl, e⟩
      · injection e with e; rw [e]
      · injection e
    · rcases isKey_shape hb with ⟨y, u, rfl, e⟩ | ⟨j, u, rfl, e⟩
      · injection e
      · injection e with e; rw [e]
  byValue := fun k v h => by rcases isKey_shape h with ⟨x, t, rfl, rfl⟩ | ⟨i, t, rfl, rfl⟩ <;> rfl
  pyHash := fun hv h => by
    rcases isKey_shape hv with ⟨x, t, rfl, rfl⟩ | ⟨i, t, rfl, rfl⟩
    · exact wpAny_pyHash_str h
    · exact wpAny_pyHash_int h
  eqBool := fun {A E s a b u v Q} hu hv h => by
    rcases isKey_shape hu with ⟨x, t, rfl, rfl⟩ | ⟨i, t, rfl, rfl⟩
    · rcases isKey_shape hv with ⟨y, u, rfl, rfl⟩ | ⟨j, u, rfl, rfl⟩
      · exact wpAny_eqBool_str (by simpa using h)
      · exact SeqAt.EqAt.str_int x t j u prog w E _ (by simpa using h)
    · rcases isKey_shape hv with ⟨y, u, rfl, rfl⟩ | ⟨j, u, rfl, rfl⟩
      · exact SeqAt.EqAt.int_str i t y u prog w E _ (by simpa using h)
      · exact wpAny_eqBool_int (by rw [show (i == j) = decide ((Sum.inr i : Key) = Sum.inr j) from (by by_cases q : i = j <;> simp [q])]; exact h)
  «strs» := fun k x t v h => by
    rcases isKey_shape h with ⟨y, u, rfl, e⟩ | ⟨j, u, rfl, e⟩
    · injection e with e; subst e; cases v <;> rfl
    · injection e

abbrev bobj (DD : Addr) (F : Option Value) (es : Array DictEntry) (ep : Nat) : Obj := { cls := .ref 58, dict := some DD, data := .dict es ep, slots := #[F] }
structure Bk (prog : Program) (w : World) (es : Array DictEntry) (kvs : List (Key × Value)) : Prop where
  keys : KeysOf (mixKind prog w) es
  pairs : Pairs (mixKind prog w) es.toList kvs
  nodup : (kvs.map (·.1)).Nodup

section
variable {prog : Program} {w : World} {A : Around} {E : Value → Shared → Prop} {s : Shared} {d DD : Addr} {F : Option Value} {es : Array DictEntry} {ep : Nat} {kvs : List (Key × Value)} {k : Key} {key v : Value}
theorem Bk.size (I : Bk prog w es kvs) : es.size = kvs.length := by rw [← I.pairs.length]; simp
theorem Bk.idx (I : Bk prog w es kvs) (k : Key) : (es.findIdx? fun e => (mixKind prog w).is k e.key) = kvs.findIdx? fun kv => decide (kv.1 = k) := by
  rw [← I.pairs.findIdx k]; obtain ⟨l⟩ := es; simp
theorem Bk.none_idx (I : Bk prog w es kvs) (hn : valueAt kvs k = none) : (es.findIdx? fun e => (mixKind prog w).is k e.key) = none := by
  rw [I.idx]
  cases q : kvs.findIdx? fun kv => decide (kv.1 = k) with
  | none => rfl
  | some i =>
    exfalso
    obtain ⟨hlt, hp, _⟩ := List.findIdx?_eq_some_iff_getElem.mp q
    have hp' : kvs[i].1 = k := of_decide_eq_true hp
    have := valueAt_of_get I.nodup (i := i) (k := k) (v := kvs[i].2) (by rw [List.getElem?_eq_getElem hlt, ← hp'])
    rw [hn] at this; cases this
theorem Bk.some_idx (I : Bk prog w es kvs) (hv : valueAt kvs k = some v) : ∃ i e, (es.findIdx? fun e => (mixKind prog w).is k e.key) = some i ∧ es[i]? = some e ∧ isKey k e.key = true ∧ e.val = v := by
  have h := I.pairs.find k
  rw [hv] at h
  obtain ⟨e, he, rfl⟩ := Option.map_eq_some_iff.mp h
  cases q : es.findIdx? fun e => (mixKind prog w).is k e.key with
  | none =>
    exfalso
    have hp := List.find?_some he
    have := Array.findIdx?_eq_none_iff.mp q e (Array.mem_toList_iff.mp (List.mem_of_find?_eq_some he))
    exact absurd hp (by simpa using this)
  | some i =>
    have hl : (es.toList.findIdx? fun e => (mixKind prog w).is k e.key) = some i := by rw [← q]; obtain ⟨l⟩ := es; simp
    obtain ⟨e', he', hk', hv'⟩ := I.pairs.at hl
    rw [hv] at hv'
    refine ⟨i, e', rfl, ?_, hk', (Option.some.inj hv').symm⟩
    rw [← he']; obtain ⟨l⟩ := es; simp

theorem b_get {Q : Option Value → Shared → Prop} (hb : s.heap.get? d = some (bobj DD F es ep)) (I : Bk prog w es kvs) (hkey : isKey k key = true) (h : Q (valueAt kvs k) { s with toks := s.toks + 1 }) :
    wpAny (model prog w) A (dictGet d key) Q E s := by
  unfold dictGet
  try with_reducible refine wpAny_holding ?_
  refine wpAny_bind ((mixKind prog w).pyHash hkey (wpAny_bind (wpAny_dictFind_of (knd := mixKind prog w) (s := { s with toks := s.toks + 1 }) hkey hb rfl I.keys ?_)))
  cases hv : valueAt kvs k with
  | none => rw [I.none_idx hv]; rw [hv] at h; exact wpAny_pure h
  | some v =>
    obtain ⟨i, e, hi, he, _, rfl⟩ := I.some_idx hv
    rw [hv] at h
    rw [hi]
    refine wpAny_bind (wpAny_dictEntries (s := { s with toks := s.toks + 1 }) hb rfl ?_)
    rw [he]
    exact wpAny_pure h

theorem any_of_value (hv : valueAt kvs k = some v) : (kvs.any fun kv => decide (kv.1 = k)) = true := by
  unfold valueAt at hv
  obtain ⟨kv, he, _⟩ := Option.map_eq_some_iff.mp hv
  exact List.any_eq_true.mpr ⟨kv, List.mem_of_find?_eq_some he, (by have := List.find?_some (p := fun kv : Key × Value => decide (kv.1 = k)) he; exact this)⟩
theorem not_any_of_none (hv : valueAt kvs k = none) : ¬ (kvs.any fun kv => decide (kv.1 = k)) = true := by
  unfold valueAt at hv
  intro q
  obtain ⟨kv, hm, hp⟩ := List.any_eq_true.mp q
  have := List.find?_eq_none.mp (Option.map_eq_none_iff.mp hv) kv hm
  exact this hp
theorem not_mem_of_none (hv : valueAt kvs k = none) : k ∉ kvs.map (·.1) := fun hm => by
  obtain ⟨kv, hkv, rfl⟩ := List.mem_map.mp hm
  exact not_any_of_none hv (List.any_eq_true.mpr ⟨kv, hkv, by simp⟩)

theorem Bk.push (I : Bk prog w es kvs) (hv : valueAt kvs k = none) (hkey : isKey k key = true) : Bk prog w (es.push ⟨(mixKind prog w).hash k, key, v⟩) (kvs ++ [(k, v)]) := by
  refine ⟨I.keys.push hkey _, ?_, ?_⟩
  · have := I.pairs.append (knd := mixKind prog w) hkey ((mixKind prog w).hash k) v
    obtain ⟨l⟩ := es
    simpa using this
  · rw [List.map_append, List.nodup_append]
    refine ⟨I.nodup, by simp, ?_⟩
    intro a ha b hb
    simp only [List.map_cons, List.map_nil, List.mem_singleton] at hb
    subst hb
    exact fun e => not_mem_of_none hv (e ▸ ha)

theorem b_set {Q : Unit → Shared → Prop} (hb : s.heap.get? d = some (bobj DD F es ep)) (I : Bk prog w es kvs) (hkey : isKey k key = true) (hsz : kvs.length ≤ 1000)
    (h : ∀ h' es' ep', h'.get? d = some (bobj DD F es' ep') → Bk prog w es' (stored kvs k v) → Heap.SameBut d s.heap h' → Q () { s with heap := h', toks := s.toks + 1 }) :
    wpAny (model prog w) A (dictSet d key v) Q E s := by
  have hes : es.size ≤ sizeLine := by rw [I.size]; exact Nat.le_trans hsz (by decide)
  unfold dictSet
  try with_reducible refine wpAny_holding ?_
  refine wpAny_bind ((mixKind prog w).pyHash hkey ?_)
  unfold dictSetHashed
  try with_reducible refine wpAny_holding ?_
  refine wpAny_bind (wpAny_dictFind_of (knd := mixKind prog w) (s := { s with toks := s.toks + 1 }) hkey hb rfl I.keys ?_)
  cases hv : valueAt kvs k with
  | some v₀ =>
    obtain ⟨i, e, hi, he, _, rfl⟩ := I.some_idx hv
    have hi' := hi; rw [I.idx] at hi'
    rw [hi]
    refine wpAny_bind (wpAny_rule (wpAny_bind (wpAny_updateDict (s := { s with toks := s.toks + 1 }) hb rfl (wpAny_point (h _ (es.modify i fun e => { e with val := v }) ep (Heap.get?_update_self _ hb rfl) ⟨I.keys.modify _ _, ?_, ?_⟩ (Heap.SameBut.update ..))))))
    · rw [stored, if_pos (any_of_findIdx_some hi')]
      have hl : (es.toList.findIdx? fun e => (mixKind prog w).is k e.key) = some i := by rw [← hi]; obtain ⟨l⟩ := es; simp
      have := I.pairs.modify I.nodup hl v
      obtain ⟨l⟩ := es
      simpa using this
    · rw [stored, if_pos (any_of_findIdx_some hi'), keys_map_store]; exact I.nodup
  | none =>
    rw [I.none_idx hv]
    refine wpAny_bind (wpAny_rule (wpAny_updateDictKeys (hz := hes) (s := { s with toks := s.toks + 1 }) hb rfl (h _ (es.push ⟨(mixKind prog w).hash k, key, v⟩) (ep + 1) (Heap.get?_update_self _ hb rfl) ?_ (Heap.SameBut.update ..))))
    rw [stored, if_neg (not_any_of_none hv)]
    exact I.push hv hkey

theorem b_setDefault {Q : Value → Shared → Prop} (hb : s.heap.get? d = some (bobj DD F es ep)) (I : Bk prog w es kvs) (hkey : isKey k key = true) (hsz : kvs.length ≤ 1000)
    (h1 : ∀ v₀, valueAt kvs k = some v₀ → Q v₀ { s with toks := s.toks + 1 })
    (h2 : valueAt kvs k = none → ∀ h' es' ep', h'.get? d = some (bobj DD F es' ep') → Bk prog w es' (kvs ++ [(k, v)]) → Heap.SameBut d s.heap h' → Q v { s with heap := h', toks := s.toks + 1 }) :
    wpAny (model prog w) A (dictSetDefault d key v) Q E s := by
  have hes : es.size ≤ sizeLine := by rw [I.size]; exact Nat.le_trans hsz (by decide)
  unfold dictSetDefault
  try with_reducible refine wpAny_holding ?_
  refine wpAny_bind ((mixKind prog w).pyHash hkey ?_)
  refine wpAny_bind (wpAny_dictFind_of (knd := mixKind prog w) (s := { s with toks := s.toks + 1 }) hkey hb rfl I.keys ?_)
  cases hv : valueAt kvs k with
  | some v₀ =>
    obtain ⟨i, e, hi, he, _, rfl⟩ := I.some_idx hv
    rw [hi]
    refine wpAny_bind (wpAny_dictEntries (s := { s with toks := s.toks + 1 }) hb rfl ?_)
    rw [he]
    exact wpAny_bind (wpAny_rule (wpAny_pure (h1 _ hv)))
  | none =>
    rw [I.none_idx hv]
    exact wpAny_bind (wpAny_rule (wpAny_bind (wpAny_updateDictKeys (hz := hes) (s := { s with toks := s.toks + 1 }) hb rfl (wpAny_pure (h2 hv _ (es.push ⟨(mixKind prog w).hash k, key, v⟩) (ep + 1) (Heap.get?_update_self _ hb rfl) (I.push hv hkey) (Heap.SameBut.update ..))))))

theorem b_takeOut {Q : Option DictEntry → Shared → Prop} (hb : s.heap.get? d = some (bobj DD F es ep)) (I : Bk prog w es kvs) (hkey : isKey k key = true) (hsz : kvs.length ≤ 1000)
    (h1 : ∀ e h' es' ep', valueAt kvs k = some e.val → h'.get? d = some (bobj DD F es' ep') → Bk prog w es' (without kvs k) → Heap.SameBut d s.heap h' → Q (some e) { s with heap := h', toks := s.toks + 1 })
    (h2 : valueAt kvs k = none → Q none { s with toks := s.toks + 1 }) :
    wpAny (model prog w) A (Builtin.Dict.takeOut d key) Q E s := by
  have hes : es.size ≤ sizeLine := by rw [I.size]; exact Nat.le_trans hsz (by decide)
  unfold Builtin.Dict.takeOut
  try with_reducible refine wpAny_holding ?_
  refine wpAny_bind ((mixKind prog w).pyHash hkey ?_)
  refine wpAny_bind (wpAny_dictFind_of (knd := mixKind prog w) (s := { s with toks := s.toks + 1 }) hkey hb rfl I.keys ?_)
  cases hv : valueAt kvs k with
  | none => rw [I.none_idx hv]; exact wpAny_pure (h2 hv)
  | some v₀ =>
    obtain ⟨i, e, hi, he, _, rfl⟩ := I.some_idx hv
    have hl : (es.toList.findIdx? fun e => (mixKind prog w).is k e.key) = some i := by rw [← hi]; obtain ⟨l⟩ := es; simp
    rw [hi]
    refine wpAny_bind (wpAny_dictEntries (s := { s with toks := s.toks + 1 }) hb rfl ?_)
    rw [he]
    refine wpAny_bind (wpAny_updateDictKeys (hz := hes) (s := { s with toks := s.toks + 1 }) hb rfl (wpAny_pure (h1 e _ (es.eraseIdxIfInBounds i) (ep + 1) hv (Heap.get?_update_self _ hb rfl) ⟨I.keys.erase _, ?_, nodup_without I.nodup k⟩ (Heap.SameBut.update ..))))
    have := I.pairs.erase I.nodup hl
    obtain ⟨l⟩ := es
    simpa using this
end
end Mine
end

section
open PySem PySem.W PyProof.Rows PySem.Calls
set_option maxRecDepth 100000
set_option maxHeartbeats 4000000
namespace Mine
theorem fk_fill (P : Params) : PySem.Challenge.rw_il0026_01 = PySem.Challenge.rw_il0026_01 → findIn (hd.heap_39 P) (.ref 58) "__getitem__" = some (some (.builtin "dict.__getitem__")) := by k_fill; intro _; k_is
theorem fk_getitem (P : Params) : findIn (hd.heap_39 P) (.ref 58) "__getitem__" = some (some (.builtin "dict.__getitem__")) := by k_is
theorem fk_setitem (P : Params) : findIn (hd.heap_39 P) (.ref 58) "__setitem__" = some (some (.builtin "dict.__setitem__")) := by k_is
theorem fk_contains (P : Params) : findIn (hd.heap_39 P) (.ref 58) "__contains__" = some (some (.builtin "dict.__contains__")) := by k_is
theorem fk_ga (P : Params) : findIn (hd.heap_39 P) (.ref 58) "__getattribute__" = some (some (.builtin "collections.defaultdict.__getattribute__")) := by k_is
theorem fk_gattr (P : Params) : findIn (hd.heap_39 P) (.ref 58) "__getattr__" = some none := by k_is
theorem fk_pop (P : Params) : findIn (hd.heap_39 P) (.ref 58) "pop" = some (some (.builtin "dict.pop")) := by k_is
theorem fk_get (P : Params) : findIn (hd.heap_39 P) (.ref 58) "get" = some (some (.builtin "dict.get")) := by k_is
theorem fk_setdefault (P : Params) : findIn (hd.heap_39 P) (.ref 58) "setdefault" = some (some (.builtin "dict.setdefault")) := by k_is
theorem fk_items (P : Params) : findIn (hd.heap_39 P) (.ref 58) "items" = some (some (.builtin "dict.items")) := by k_is
theorem fk_missing (P : Params) : findIn (hd.heap_39 P) (.ref 58) "__missing__" = some (some (.ref 48)) := by k_is
theorem fk_missing_t (P : Params) : typeIn (hd.heap_39 P) (.ref 48) = some (.type "function") := by k_is
theorem fk_dict (P : Params) : subIn (hd.heap_39 P) (.ref 58) (.type "dict") = some true := by k_is
theorem fk_dd (P : Params) : subIn (hd.heap_39 P) (.ref 58) (.type "collections.defaultdict") = some true := by k_is
theorem fk_od (P : Params) : subIn (hd.heap_39 P) (.ref 58) (.type "collections.OrderedDict") = some false := by k_is
theorem fk_seq (P : Params) : noSeq (hd.heap_39 P) 58 = true := by k_is

section
variable {prog : Program} {w : World} {A : Around} {E : Value → Shared → Prop} {s : Shared} {b DD : Addr} {F : Option Value} {es : Array DictEntry} {ep : Nat} {kvs : List (Key × Value)} {k : Key} {key v : Value} {R : Result → Shared → Prop}

theorem b_type (hb : s.heap.get? b = some (bobj DD F es ep)) : Looks (model prog w) s.heap (typeOf (.ref b)) (.ref 58) := (Looks.ld hb).andThen .now
theorem b_inst {base : Value} {r : Bool} (X : (hd.heap_39 w.params).In s.heap) (hb : s.heap.get? b = some (bobj DD F es ep)) (h : subIn (hd.heap_39 w.params) (.ref 58) base = some r) : Looks (model prog w) s.heap (isInstance (.ref b) base) r :=
  (b_type hb).andThen (looks_subIn X h)

theorem bi_bind {id : String} (hkind : builtinKind id = some .slot ∨ builtinKind id = some .method) (hop : withoutEnding? id "#opaque" = none) (hdat : withoutEnding? id "#data" = none) (self : Value) : bindSpecial (.builtin id) self = pure (.builtin id, [self]) := by
  rcases hkind with h | h <;> (simp only [bindSpecial, typeOf, builtinType, hop, hdat, h]; rfl)

theorem b_check {id n : String} {rest : List Value} {Q : Unit → Shared → Prop} (X : (hd.heap_39 w.params).In s.heap) (hb : s.heap.get? b = some (bobj DD F es ep)) (hkind : builtinKind id = some .slot ∨ builtinKind id = some .method)
    (hs : splitId id = some ("dict", n)) (ha : argsOk id ⟨.ref b :: rest, []⟩) (q : Q () s) : wpAny (model prog w) A (checkBuiltinCall id ⟨.ref b :: rest, []⟩) Q E s := by
  rcases hkind with h | h
  all_goals (
    simp only [checkBuiltinCall, h, hs]
    refine wpAny_bind ((b_inst X hb (fk_dict _)).here ?_)
    simp only [Bool.not_true, Bool.false_eq_true, if_false]
    cases hsig : Manifest.signature? id with
    | none => exact wpAny_pure q
    | some sig =>
      simp only [argsOk, hsig] at ha
      have h2 : Bind.checkArgs id sig ⟨.ref b :: rest, []⟩ = pure () := ha
      show wpAny _ A (Bind.checkArgs id sig ⟨.ref b :: rest, []⟩) Q E s
      rw [h2]; exact wpAny_pure q)

theorem b_special {id : String} {name : Str} {args : List Value} {Q : Option Value → Shared → Prop} (X : (hd.heap_39 w.params).In s.heap) (hb : s.heap.get? b = some (bobj DD F es ep))
    (hf : findIn (hd.heap_39 w.params) (.ref 58) name = some (some (.builtin id))) (hbd : ∀ self, bindSpecial (.builtin id) self = pure (.builtin id, [self]))
    (h : wpAny (model prog w) A (call (.builtin id) (.ref b :: args)) (fun v => Q (some v)) E s) : wpAny (model prog w) A (callSpecial? (.ref b) name args) Q E s := by
  unfold callSpecial? specialOf
  refine wpAny_bind (wpAny_bind ((b_type hb).here ((looks_findIn X hf).here ?_)))
  refine wpAny_holding (wpAny_bind ?_)
  rw [hbd]
  exact wpAny_pure (wpAny_bind (wpAny_mono h (fun _ _ z => wpAny_pure z) fun _ _ z => z))

theorem kd_getitem : builtinKind "dict.__getitem__" = some .slot ∨ builtinKind "dict.__getitem__" = some .method := by decide +kernel
theorem kd_setitem : builtinKind "dict.__setitem__" = some .slot ∨ builtinKind "dict.__setitem__" = some .method := by decide +kernel
theorem kd_contains : builtinKind "dict.__contains__" = some .slot ∨ builtinKind "dict.__contains__" = some .method := by decide +kernel
theorem kd_pop : builtinKind "dict.pop" = some .slot ∨ builtinKind "dict.pop" = some .method := by decide +kernel
theorem kd_get : builtinKind "dict.get" = some .slot ∨ builtinKind "dict.get" = some .method := by decide +kernel
theorem kd_setdefault : builtinKind "dict.setdefault" = some .slot ∨ builtinKind "dict.setdefault" = some .method := by decide +kernel
theorem kd_items : builtinKind "dict.items" = some .slot ∨ builtinKind "dict.items" = some .method := by decide +kernel
theorem sp_getitem : splitId "dict.__getitem__" = some ("dict", "__getitem__") := by decide +kernel
theorem sp_setitem : splitId "dict.__setitem__" = some ("dict", "__setitem__") := by decide +kernel
theorem sp_contains : splitId "dict.__contains__" = some ("dict", "__contains__") := by decide +kernel
theorem sp_pop : splitId "dict.pop" = some ("dict", "pop") := by decide +kernel
theorem sp_get : splitId "dict.get" = some ("dict", "get") := by decide +kernel
theorem sp_setdefault : splitId "dict.setdefault" = some ("dict", "setdefault") := by decide +kernel
theorem sp_items : splitId "dict.items" = some ("dict", "items") := by decide +kernel

theorem b_notOrdered {name : String} {args : Args} {rest : List Value} {Q : Unit → Shared → Prop} (X : (hd.heap_39 w.params).In s.heap) (hb : s.heap.get? b = some (bobj DD F es ep)) (ha : args.pos = .ref b :: rest) (h : Q () s) :
    wpAny (model prog w) A (Builtin.Dict.notOrdered name args) Q E s := by
  unfold Builtin.Dict.notOrdered
  rw [ha]
  split
  · refine wpAny_bind ((b_type hb).here ?_)
    show wpAny _ _ (if (Value.ref 58 != Value.type "dict") = true then _ else _) _ _ s
    rw [if_pos (by decide)]
    refine wpAny_bind ((b_inst X hb (fk_od _)).here ?_)
    exact wpAny_pure h
  · exact wpAny_pure h

theorem c_getitem (X : (hd.heap_39 w.params).In s.heap) (hb : s.heap.get? b = some (bobj DD F es ep)) (I : Bk prog w es kvs) (hkey : isKey k key = true) (hv : valueAt kvs k = some v)
    (h : R (.ok (.ret v)) { s with toks := s.toks + 1 }) : codeAny (model prog w) A (.call (.builtin "dict.__getitem__") ⟨[.ref b, key], []⟩) R s := by
  refine codeAny_call_builtin PySem.F.slot_dict_getitem.plain PySem.F.entry_dict_getitem (b_check (id := "dict.__getitem__") (rest := [key]) X hb kd_getitem sp_getitem (PySem.F.args_dict_getitem_2 (.ref b) key) ?_)
  show wpAny _ _ (dictGet b key >>= _) _ _ s
  refine wpAny_bind (b_get hb I hkey ?_)
  rw [hv]
  exact wpAny_pure h

theorem c_getitem_miss (X : (hd.heap_39 w.params).In s.heap) (hb : s.heap.get? b = some (bobj DD F es ep)) (I : Bk prog w es kvs) (hkey : isKey k key = true) (hv : valueAt kvs k = none) (hne : (b == sysModules) = false)
    (h : codeAny (model prog w) A.in1 (.call (.ref 48) ⟨[.ref b, key], []⟩) (fun r s' => match r with | .ok (.ret v) => R (.ok (.ret v)) s' | .ok _ => False | .error e => R (.error e) s') { s with toks := s.toks + 1 }) :
    codeAny (model prog w) A (.call (.builtin "dict.__getitem__") ⟨[.ref b, key], []⟩) R s := by
  refine codeAny_call_builtin PySem.F.slot_dict_getitem.plain PySem.F.entry_dict_getitem (b_check (id := "dict.__getitem__") (rest := [key]) X hb kd_getitem sp_getitem (PySem.F.args_dict_getitem_2 (.ref b) key) ?_)
  show wpAny _ _ (dictGet b key >>= _) _ _ s
  refine wpAny_bind (b_get hb I hkey ?_)
  rw [hv]
  show wpAny _ _ (Builtin.Dict.missed b key >>= _) _ _ _
  refine wpAny_bind (wpAny_missed_other hne ?_)
  show wpAny _ _ (typeOf (.ref b) >>= _) _ _ _
  refine wpAny_bind ((b_type (s := { s with toks := s.toks + 1 }) hb).here ?_)
  show wpAny _ _ (if (Value.ref 58 != Value.type "dict") = true then _ else _) _ _ _
  rw [if_pos (by decide)]
  refine wpAny_bind ?_
  unfold callSpecial? specialOf
  refine wpAny_bind (wpAny_bind ((b_type (s := { s with toks := s.toks + 1 }) hb).here (Looks.here (s := { s with toks := s.toks + 1 }) (looks_findIn (h := s.heap) X (fk_missing _)) ?_)))
  refine wpAny_holding (wpAny_bind (Looks.here (s := { s with toks := s.toks + 1 }) (bind_fn (h := s.heap) X _ (fk_missing_t _)) (wpAny_bind (wpAny_call (codeAny_mono h fun r s' hr => ?_)))))
  cases r with
  | error e => exact hr
  | ok f => cases f <;> first | exact hr.elim | exact wpAny_pure (wpAny_bind (wpAny_rule (wpAny_pure hr)))

theorem b_seqKey {name : Str} {Q : Value → Shared → Prop} (X : (hd.heap_39 w.params).In s.heap) (hb : s.heap.get? b = some (bobj DD F es ep)) (h : Q key s) : wpAny (model prog w) A (sequenceKey (.ref b) key name) Q E s := by
  unfold sequenceKey
  refine wpAny_bind ((b_type hb).here ?_)
  refine wpAny_bind ((anyM_none X (fk_seq _)).here ?_)
  rw [if_pos (show (!false) = true from rfl)]
  exact wpAny_pure h

theorem b_getItem {Q : Value → Shared → Prop} (X : (hd.heap_39 w.params).In s.heap) (hb : s.heap.get? b = some (bobj DD F es ep))
    (h : codeAny (model prog w) A (.call (.builtin "dict.__getitem__") ⟨[.ref b, key], []⟩) (fun r s' => match r with | .ok (.ret v) => Q v s' | .ok _ => False | .error e => E e s') s) :
    wpAny (model prog w) A (getItem (.ref b) key) Q E s := by
  unfold getItem
  refine wpAny_holding (wpAny_bind (b_seqKey X hb (wpAny_bind (b_special X hb (fk_getitem _) PySem.F.slot_dict_getitem.bind (wpAny_mono (wpAny_call h) (fun v s' z => ?_) fun _ _ z => z)))))
  exact wpAny_pure z

theorem b_sub {value slice : Expr} {Q : Value → Shared → Prop} (X : (hd.heap_39 w.params).In s.heap) (hb : s.heap.get? b = some (bobj DD F es ep))
    (h : codeAny (model prog w) A (.call (.builtin "dict.__getitem__") ⟨[.ref b, key], []⟩) (fun r s' => match r with | .ok (.ret v) => Q v s' | .ok _ => False | .error e => E e s') s)
    (hs : subscripted slice false (.ref b) key = operate [.ref b, key] (getItem (.ref b) key)) :
    wpAny (model prog w) A (subscriptTail value slice (.ref b) key) Q E s := by
  unfold subscriptTail getitemInPython specialOf
  refine wpAny_bind (wpAny_bind (wpAny_bind ((b_type hb).here ((looks_findIn X (fk_getitem _)).here ?_))))
  refine wpAny_pure ?_
  rw [hs]
  refine wpAny_bind (wpAny_operating (wpAny_mono (b_getItem X hb h) (fun r s₃ h₃ => wpAny_bind (wpAny_letTemporaryGo (wpAny_pure h₃))) fun _ _ x => x))
end
end Mine
end

section
open PySem PySem.W PyProof.Rows PySem.Calls
set_option maxRecDepth 100000
set_option maxHeartbeats 4000000
namespace Mine
section
variable {prog : Program} {w : World} {A : Around} {E : Value → Shared → Prop} {s : Shared} {b DD : Addr} {F : Option Value} {es : Array DictEntry} {ep : Nat} {kvs : List (Key × Value)} {k : Key} {key v : Value} {R : Result → Shared → Prop}

theorem isKey_part (h : isKey k key = true) : (keyPart key).isSome = true := by rcases isKey_shape h with ⟨x, t, rfl, rfl⟩ | ⟨i, t, rfl, rfl⟩ <;> rfl

theorem c_setitem (X : (hd.heap_39 w.params).In s.heap) (hb : s.heap.get? b = some (bobj DD F es ep)) (I : Bk prog w es kvs) (hkey : isKey k key = true) (hsz : kvs.length ≤ 1000)
    (h : ∀ h' es' ep', h'.get? b = some (bobj DD F es' ep') → Bk prog w es' (stored kvs k v) → Heap.SameBut b s.heap h' → R (.ok (.ret .none)) { s with heap := h', toks := s.toks + 1 }) :
    codeAny (model prog w) A (.call (.builtin "dict.__setitem__") ⟨[.ref b, key, v], []⟩) R s := by
  refine codeAny_call_builtin PySem.F.slot_dict_setitem.plain PySem.F.entry_dict_setitem (b_check (id := "dict.__setitem__") (rest := [key, v]) X hb kd_setitem sp_setitem (PySem.F.args_dict_setitem_3 (.ref b) key v) ?_)
  show wpAny _ _ (Builtin.Dict.notOrdered "__setitem__" ⟨[.ref b, key, v], []⟩ >>= _) _ _ s
  refine wpAny_bind (b_notOrdered X hb rfl ?_)
  show wpAny _ _ (dictSet b key v >>= _) _ _ s
  exact wpAny_bind (b_set hb I hkey hsz fun h' es' ep' h1 h2 h3 => wpAny_pure (h h' es' ep' h1 h2 h3))

theorem b_setItem {Q : Unit → Shared → Prop} (X : (hd.heap_39 w.params).In s.heap) (hb : s.heap.get? b = some (bobj DD F es ep)) (I : Bk prog w es kvs) (hkey : isKey k key = true) (hsz : kvs.length ≤ 1000)
    (h : ∀ h' es' ep', h'.get? b = some (bobj DD F es' ep') → Bk prog w es' (stored kvs k v) → Heap.SameBut b s.heap h' → Q () { s with heap := h', toks := s.toks + 1 }) :
    wpAny (model prog w) A (setItem (.ref b) key v) Q E s := by
  unfold setItem
  refine wpAny_holding (wpAny_bind (b_seqKey X hb (wpAny_bind (b_special X hb (fk_setitem _) PySem.F.slot_dict_setitem.bind (wpAny_call (c_setitem X hb I hkey hsz fun h' es' ep' h1 h2 h3 => ?_))))))
  exact wpAny_pure (h h' es' ep' h1 h2 h3)

theorem c_pop {dflt : Value} (X : (hd.heap_39 w.params).In s.heap) (hb : s.heap.get? b = some (bobj DD F es ep)) (I : Bk prog w es kvs) (hkey : isKey k key = true) (hsz : kvs.length ≤ 1000) (hne : (b == sysModules) = false)
    (h1 : ∀ v h' es' ep', valueAt kvs k = some v → h'.get? b = some (bobj DD F es' ep') → Bk prog w es' (without kvs k) → Heap.SameBut b s.heap h' → R (.ok (.ret v)) { s with heap := h', toks := s.toks + 1 })
    (h2 : valueAt kvs k = none → R (.ok (.ret dflt)) { s with toks := s.toks + 1 }) :
    codeAny (model prog w) A (.call (.builtin "dict.pop") ⟨[.ref b, key, dflt], []⟩) R s := by
  refine codeAny_call_builtin PySem.F.slot_dict_pop.plain PySem.F.entry_dict_pop (b_check (id := "dict.pop") (rest := [key, dflt]) X hb kd_pop sp_pop (PySem.F.args_dict_pop_3 (.ref b) key dflt) ?_)
  unfold Builtin.«dict.pop»
  refine wpAny_bind ?_
  unfold Builtin.Dict.keyAndDefault
  refine wpAny_bind (b_notOrdered X hb rfl ?_)
  show wpAny _ _ (pure (b, key, some dflt)) _ _ s
  refine wpAny_pure ?_
  simp only [isKey_part hkey, if_true]
  refine wpAny_bind (wpAny_pure ?_)
  simp only [Bool.false_eq_true, if_false]
  refine wpAny_bind (b_takeOut hb I hkey hsz (fun e h' es' ep' hv a1 a2 a3 => ?_) fun hv => ?_)
  · simp only [Option.isNone_some, Bool.false_eq_true, if_false]
    exact wpAny_bind (wpAny_letGo (wpAny_pure (h1 _ h' es' ep' hv a1 a2 a3)))
  · simp only [Option.isNone_none, if_true]
    exact wpAny_bind (wpAny_missedRemoval_other hne (wpAny_bind (wpAny_rule (wpAny_pure (h2 hv)))))

theorem c_get (X : (hd.heap_39 w.params).In s.heap) (hb : s.heap.get? b = some (bobj DD F es ep)) (I : Bk prog w es kvs) (hkey : isKey k key = true) (hne : (b == sysModules) = false)
    (h : R (.ok (.ret ((valueAt kvs k).getD .none))) { s with toks := s.toks + 1 }) : codeAny (model prog w) A (.call (.builtin "dict.get") ⟨[.ref b, key], []⟩) R s := by
  refine codeAny_call_builtin PySem.F.slot_dict_get.plain PySem.F.entry_dict_get (b_check (id := "dict.get") (rest := [key]) X hb kd_get sp_get (PySem.F.args_dict_get_2 (.ref b) key) ?_)
  show wpAny _ _ (dictGet b key >>= _) _ _ s
  refine wpAny_bind (b_get hb I hkey ?_)
  cases hv : valueAt kvs k with
  | some v => rw [hv] at h; exact wpAny_pure h
  | none =>
    rw [hv] at h
    show wpAny _ _ (Builtin.Dict.missed b key >>= _) _ _ _
    exact wpAny_bind (wpAny_missed_other hne (wpAny_pure h))

theorem c_contains (X : (hd.heap_39 w.params).In s.heap) (hb : s.heap.get? b = some (bobj DD F es ep)) (I : Bk prog w es kvs) (hkey : isKey k key = true) (hne : (b == sysModules) = false)
    (h : R (.ok (.ret (.bool (valueAt kvs k).isSome))) { s with toks := s.toks + 1 }) : codeAny (model prog w) A (.call (.builtin "dict.__contains__") ⟨[.ref b, key], []⟩) R s := by
  refine codeAny_call_builtin PySem.F.slot_dict_contains.plain PySem.F.entry_dict_contains (b_check (id := "dict.__contains__") (rest := [key]) X hb kd_contains sp_contains (PySem.F.args_dict_contains_2 (.ref b) key) ?_)
  show wpAny _ _ (dictGet b key >>= _) _ _ s
  refine wpAny_bind (b_get hb I hkey ?_)
  cases hv : valueAt kvs k with
  | some v => rw [hv] at h; exact wpAny_pure h
  | none =>
    rw [hv] at h
    show wpAny _ _ (Builtin.Dict.pendingKey? b key >>= _) _ _ _
    exact wpAny_bind (wpAny_pendingKey_other hne (wpAny_pure h))

theorem c_setdefault {dflt : Value} (X : (hd.heap_39 w.params).In s.heap) (hb : s.heap.get? b = some (bobj DD F es ep)) (I : Bk prog w es kvs) (hkey : isKey k key = true) (hsz : kvs.length ≤ 1000) (hne : (b == sysModules) = false)
    (h1 : ∀ v, valueAt kvs k = some v → R (.ok (.ret v)) { s with toks := s.toks + 1 })
    (h2 : valueAt kvs k = none → ∀ h' es' ep', h'.get? b = some (bobj DD F es' ep') → Bk prog w es' (kvs ++ [(k, dflt)]) → Heap.SameBut b s.heap h' → R (.ok (.ret dflt)) { s with heap := h', toks := s.toks + 1 }) :
    codeAny (model prog w) A (.call (.builtin "dict.setdefault") ⟨[.ref b, key, dflt], []⟩) R s := by
  refine codeAny_call_builtin PySem.F.slot_dict_setdefault.plain PySem.F.entry_dict_setdefault (b_check (id := "dict.setdefault") (rest := [key, dflt]) X hb kd_setdefault sp_setdefault (PySem.F.args_dict_setdefault_3 (.ref b) key dflt) ?_)
  unfold Builtin.«dict.setdefault»
  refine wpAny_bind ?_
  unfold Builtin.Dict.keyAndDefault
  refine wpAny_bind (b_notOrdered X hb rfl ?_)
  show wpAny _ _ (pure (b, key, some dflt)) _ _ s
  refine wpAny_pure ?_
  show wpAny _ _ (if (b == sysModules) = true then _ else (dictSetDefault b key dflt >>= _)) _ _ s
  rw [if_neg (by rw [hne]; exact Bool.false_ne_true)]
  exact wpAny_bind (b_setDefault hb I hkey hsz (fun v hv => wpAny_pure (h1 v hv)) fun hv h' es' ep' a1 a2 a3 => wpAny_pure (h2 hv h' es' ep' a1 a2 a3))

theorem c_items (X : (hd.heap_39 w.params).In s.heap) (hb : s.heap.get? b = some (bobj DD F es ep)) (hne : (b == sysModules) = false)
    (h : R (.ok (.ret (.ref s.heap.objs.size))) { s with heap := s.heap.push { cls := .type "dict_items", data := .fields #[.ref b] } }) : codeAny (model prog w) A (.call (.builtin "dict.items") ⟨[.ref b], []⟩) R s := by
  refine codeAny_call_builtin PySem.F.slot_dict_items.plain PySem.F.entry_dict_items (b_check (id := "dict.items") (rest := []) X hb kd_items sp_items (PySem.F.args_dict_items_1 (.ref b)) ?_)
  unfold Builtin.«dict.items»
  refine wpAny_bind ?_
  unfold Builtin.Dict.noArgs
  refine wpAny_bind (b_notOrdered X hb rfl ?_)
  show wpAny _ _ (pure b) _ _ s
  refine wpAny_pure ?_
  unfold Builtin.Dict.showsAll
  rw [if_neg (by rw [hne]; exact Bool.false_ne_true)]
  refine wpAny_bind (wpAny_pure (wpAny_bind ?_))
  exact wpAny_newObj_type (wpAny_pure h)

theorem b_contains {Q : Bool → Shared → Prop} (X : (hd.heap_39 w.params).In s.heap) (hb : s.heap.get? b = some (bobj DD F es ep)) (I : Bk prog w es kvs) (hkey : isKey k key = true) (hne : (b == sysModules) = false)
    (h : Q (valueAt kvs k).isSome { s with toks := s.toks + 1 }) : wpAny (model prog w) A (contains (.ref b) key) Q E s := by
  unfold contains
  refine wpAny_holding ?_
  show wpAny _ _ (specialOf (.ref b) "__contains__" >>= _) _ _ _
  unfold specialOf
  refine wpAny_bind (wpAny_bind ((b_type hb).here ((looks_findIn X (fk_contains _)).here ?_)))
  rw [if_neg (by simp)]
  refine wpAny_bind ?_
  unfold callSpecialUnlessNone? specialOf
  refine wpAny_bind (wpAny_bind ((b_type hb).here ((looks_findIn X (fk_contains _)).here ?_)))
  refine wpAny_holding (wpAny_bind ?_)
  rw [PySem.F.slot_dict_contains.bind]
  refine wpAny_pure ?_
  dsimp only
  rw [if_neg (by simp)]
  exact wpAny_bind (wpAny_call (c_contains X hb I hkey hne (wpAny_pure (wpAny_truthy_bool h))))

theorem b_method {id : String} {name : Str} {pl : Sem Bool} {od : Obj} {Q : Value × List Value → Shared → Prop} (X : (hd.heap_39 w.params).In s.heap) (hb : s.heap.get? b = some (bobj DD F es ep)) (hod : s.heap.get? DD = some od)
    (hf : findIn (hd.heap_39 w.params) (.ref 58) name = some (some (.builtin id))) (ht : typeOf (.builtin id) = pure (.type "method_descriptor")) (hs : lookIn name od = some none) (h : Q (.builtin id, [.ref b]) s) :
    wpAny (model prog w) A (getMethod (.ref b) name pl) Q E s := by
  unfold getMethod specialOf
  refine wpAny_bind (wpAny_bind ((b_type hb).here ((looks_findIn X (fk_ga _)).here ?_)))
  dsimp only
  rw [if_neg (by decide +kernel)]
  refine wpAny_bind (wpAny_bind ((b_type hb).here ((looks_findIn X (fk_gattr _)).here ?_)))
  refine wpAny_bind (wpAny_bind ((b_type hb).here ((looks_findIn X hf).here (wpAny_bind ?_))))
  rw [ht]
  refine wpAny_pure ?_
  rw [if_neg (by decide +kernel)]
  refine wpAny_bind (wpAny_loadPart hb ?_)
  refine wpAny_bind (wpAny_bind (wpAny_loadPart hod ?_))
  rw [nsLook_of hs]
  exact wpAny_pure (wpAny_bind (wpAny_rule (wpAny_pure h)))
end
end Mine
end

section
open PySem PySem.W PyProof.Rows PySem.Calls
set_option maxRecDepth 100000
set_option maxHeartbeats 4000000
namespace Mine
section
variable {prog : Program} {w : World} {A₀ A : Around} {s : Shared} {base h₀ : Heap} {outer : List Env} {L : Addr} {m : Str → Option Value} {env : Env} {news : List (Addr × Obj)} {K : Frag} {p : Program} {loose : List Str} {mean : ExcName → Option Value} {mg mb : Str → Option Value}
  {R : Result → Shared → Prop} {name qual : Str} {params : Arguments} {body : List Stmt} {scope : Scope} {cl : List (Str × Addr)} {dV kV doc pm cdv ct oc : Value} {an od : Option Addr} {osl : Array (Option Value)} {f : Addr} {args : Args} {binds : List (Str × Value)}

theorem gdefK (B : Below A₀ base outer h₀) (F : Fr h₀ L s.heap m) (X₀ : K.In h₀) (N : News h₀ L s.heap news) (T : Top p loose mean mg mb h₀) (hA : A.frames = some (env :: outer)) (hf : env.frame = some L) (hke : env.scope.kind = .function)
    (ho : K.lookup f = some ⟨oc, od, .func (fnX name qual params body scope cl dV kV doc pm an cdv ct), osl⟩) (hcd : codeIn K cdv qual = true) (hroom : A.depth < recursionLimit)
    (hbind : BindsTo s (fnX name qual params body scope cl dV kV doc pm an cdv ct) args binds) (hloc : ∀ y ∈ binds, scope.names.lookup y.1 = some .local)
    (h : ∀ g L' h₁, Fr h₀ L g m → Fr g L' h₁ (fun y => binds.reverse.lookup y) → News g L' h₁ news → Below A base (env :: outer) g → K.In g → Top p loose mean mg mb g → (∀ p ∈ news, p.1 < L') →
      wpAny (model prog w) (A.deeper (envX qual scope L' f cdv cl)) (execs body (envX qual scope L' f cdv cl))
        (fun fl s' => LeaveK h₀ L m g R (match fl with | .ret v => v | _ => .none) s')
        (fun e s' => wpAny (model prog w) (A.deeper (envX qual scope L' f cdv cl)) (leaving (envX qual scope L' f cdv cl) e) (fun _ s'' => R (.error e) s'') (fun e' s'' => R (.error e') s'') s')
        { s with heap := h₁, toks := s.toks + binds.length })
    (hco : scope.isCoroutine = false) (hgen : scope.isGenerator = false) (hk : scope.kind = .function) (hcell : ∀ x ∈ scope.names, x.2 ≠ .cell) : codeAny (model prog w) A (.call (.ref f) args) R s :=
  callX_plain B F N T.nolimit hA hf hke ((X₀.keeps F.keep) _ _ ho) rfl (codeRec_of (X₀.keeps F.keep) hcd) hroom hbind hloc (fun g L' h₁ a1 a2 a3 a4 a5 a6 => h g L' h₁ a1 a2 a3 a4 (X₀.keeps a5) (T.keeps a5) a6) hcell hco hgen hk

theorem gdefG (B : Below A₀ base outer h₀) (F : Fr h₀ L s.heap m) (X₀ : K.In h₀) (N : News h₀ L s.heap news) (D : KtsDicts (outer.filterMap (·.frame)) h₀) (T : Top p loose mean mg mb h₀) (hA : A.frames = some (env :: outer)) (hf : env.frame = some L) (hke : env.scope.kind = .function)
    (ho : K.lookup f = some ⟨oc, od, .func (fnX name qual params body scope cl dV kV doc pm an cdv ct), osl⟩) (hcd : codeIn K cdv qual = true) (hroom : A.depth < recursionLimit)
    (hbind : BindsTo s (fnX name qual params body scope cl dV kV doc pm an cdv ct) args binds) (hloc : ∀ y ∈ binds, scope.names.lookup y.1 = some .local)
    (h : ∀ g L' h₁, Fr h₀ L g m → Fr g L' h₁ (fun y => binds.reverse.lookup y) → News g L' h₁ news → Below A base (env :: outer) g → K.In g → Top p loose mean mg mb g → KtsDicts ((env :: outer).filterMap (·.frame)) g → (∀ p ∈ news, p.1 < L') → (∀ b o, s.heap.get? b = some o → b ∉ news.map (·.1) → g.get? b = some o) →
      wpAny (model prog w) (A.deeper (envX qual scope L' f cdv cl)) (execs body (envX qual scope L' f cdv cl))
        (fun fl s' => LeaveG A₀ base outer env h₀ L m g R (match fl with | .ret v => v | _ => .none) s')
        (fun e s' => wpAny (model prog w) (A.deeper (envX qual scope L' f cdv cl)) (leaving (envX qual scope L' f cdv cl) e) (fun _ s'' => R (.error e) s'') (fun e' s'' => R (.error e') s'') s')
        { s with heap := h₁, toks := s.toks + binds.length })
    (hco : scope.isCoroutine = false) (hgen : scope.isGenerator = false) (hk : scope.kind = .function) (hcell : ∀ x ∈ scope.names, x.2 ≠ .cell) : codeAny (model prog w) A (.call (.ref f) args) R s :=
  gcall_plain B F N D T.nolimit hA hf hke ((X₀.keeps F.keep) _ _ ho) rfl (codeRec_of (X₀.keeps F.keep) hcd) hroom hbind hloc (fun g L' h₁ a1 a2 a3 a4 a5 a6 a7 a8 => h g L' h₁ a1 a2 a3 a4 (X₀.keeps a5) (T.keeps a5) a6 a7 a8) hcell hco hgen hk

theorem gdefG0 (B : Below A₀ base outer h₀) (F : Fr h₀ L s.heap m) (X₀ : K.In h₀) (N : News h₀ L s.heap news) (D : KtsDicts (outer.filterMap (·.frame)) h₀) (T : Top p loose mean mg mb h₀) (hA : A.frames = some (env :: outer)) (hf : env.frame = some L) (hke : env.scope.kind = .function)
    (ho : K.lookup f = some ⟨oc, od, .func (fnOf name qual params body scope dV kV doc pm an cdv ct), osl⟩) (hcd : codeIn K cdv qual = true) (hroom : A.depth < recursionLimit)
    (hbind : BindsTo s (fnOf name qual params body scope dV kV doc pm an cdv ct) args binds) (hloc : ∀ y ∈ binds, scope.names.lookup y.1 = some .local)
    (h : ∀ g L' h₁, Fr h₀ L g m → Fr g L' h₁ (fun y => binds.reverse.lookup y) → News g L' h₁ news → Below A base (env :: outer) g → K.In g → Top p loose mean mg mb g → KtsDicts ((env :: outer).filterMap (·.frame)) g → (∀ p ∈ news, p.1 < L') → (∀ b o, s.heap.get? b = some o → b ∉ news.map (·.1) → g.get? b = some o) →
      wpAny (model prog w) (A.deeper (envOf qual scope L' f cdv)) (execs body (envOf qual scope L' f cdv))
        (fun fl s' => LeaveG A₀ base outer env h₀ L m g R (match fl with | .ret v => v | _ => .none) s')
        (fun e s' => wpAny (model prog w) (A.deeper (envOf qual scope L' f cdv)) (leaving (envOf qual scope L' f cdv) e) (fun _ s'' => R (.error e) s'') (fun e' s'' => R (.error e') s'') s')
        { s with heap := h₁, toks := s.toks + binds.length })
    (hco : scope.isCoroutine = false) (hgen : scope.isGenerator = false) (hk : scope.kind = .function) (hcell : ∀ x ∈ scope.names, x.2 ≠ .cell) : codeAny (model prog w) A (.call (.ref f) args) R s :=
  gdefG B F X₀ N D T hA hf hke ho hcd hroom hbind hloc h hco hgen hk hcell

theorem gdefC (B : Below A₀ base outer h₀) (F : Fr h₀ L s.heap m) (X₀ : K.In h₀) (N : News h₀ L s.heap news) (D : KtsDicts (outer.filterMap (·.frame)) h₀) (T : Top p loose mean mg mb h₀) (hA : A.frames = some (env :: outer)) (hf : env.frame = some L) (hke : env.scope.kind = .function)
    (ho : K.lookup f = some ⟨oc, od, .func (fnX name qual params body scope [] dV kV doc pm an cdv ct), osl⟩) (hcd : codeIn K cdv qual = true) (hroom : A.depth < recursionLimit)
    (hbind : BindsTo s (fnX name qual params body scope [] dV kV doc pm an cdv ct) args binds)
    (hkind : (binds.all fun y => scope.names.lookup y.1 == some .local || scope.names.lookup y.1 == some .cell) = true)
    (hnd : ((cellsFrom 0 scope.names []).map (·.1)).Nodup)
    (h : ∀ g L' h₁ tk cells, Fr h₀ L g m → Fr g L' h₁ (bindL (envOfC qual scope L' f cdv).kindOf binds fun _ => none) → News g L' h₁ (cells ++ news) →
      CellsAre (bindC (envOfC qual scope L' f cdv).kindOf binds fun _ => none) (cellsFrom (L' + 1) scope.names []) cells → Below A base (env :: outer) g → K.In g → Top p loose mean mg mb g → KtsDicts ((env :: outer).filterMap (·.frame)) g → (∀ p ∈ news, p.1 < L') → (∀ b o, s.heap.get? b = some o → b ∉ news.map (·.1) → g.get? b = some o) →
      wpAny (model prog w) (A.deeper (envOfC qual scope L' f cdv)) (execs body (envOfC qual scope L' f cdv))
        (fun fl s' => LeaveG A₀ base outer env h₀ L m g R (match fl with | .ret v => v | _ => .none) s')
        (fun e s' => wpAny (model prog w) (A.deeper (envOfC qual scope L' f cdv)) (leaving (envOfC qual scope L' f cdv) e) (fun _ s'' => R (.error e) s'') (fun e' s'' => R (.error e') s'') s')
        { s with heap := h₁, toks := tk })
    (hco : scope.isCoroutine = false) (hgen : scope.isGenerator = false) (hk : scope.kind = .function) : codeAny (model prog w) A (.call (.ref f) args) R s :=
  gcall_cells B F N D T.nolimit hA hf hke ((X₀.keeps F.keep) _ _ ho) rfl (codeRec_of (X₀.keeps F.keep) hcd) hroom hbind (kindsX hkind) hnd (fun g L' h₁ tk cells a1 a2 a3 a4 a5 a6 a7 a8 a9 => h g L' h₁ tk cells a1 a2 a3 a4 a5 (X₀.keeps a6) (T.keeps a6) a7 a8 a9) hco hgen hk

theorem lam_code {pm' : Value} {body' : Expr} {c' : Addr} {ctv : Value} (B : Below A₀ base outer h₀) (F : Fr h₀ L s.heap m) (X₀ : K.In h₀) (N : News h₀ L s.heap news) (T : Top p loose mean mg mb h₀) (hA : A.frames = some (env :: outer)) (hf : env.frame = some L) (hke : env.scope.kind = .function)
    (ho : s.heap.get? f = some (kla_obj name qual params body' scope cl pm' c' ctv)) (hcd : s.heap.CodeRec (.ref c') qual) (hroom : A.depth < recursionLimit)
    (hbind : bindArgs (kla_fn name qual params body' scope cl pm' (.ref c') ctv) args = pure binds) (hloc : ∀ y ∈ binds, scope.names.lookup y.1 = some .local)
    (h : ∀ g L' h₁, Fr h₀ L g m → Fr g L' h₁ (fun y => binds.reverse.lookup y) → News g L' h₁ news → Below A base (env :: outer) g → K.In g → Top p loose mean mg mb g → (∀ p ∈ news, p.1 < L') → (∀ b o, s.heap.get? b = some o → b ∉ news.map (·.1) → g.get? b = some o) →
      wpAny (model prog w) (A.deeper (envX qual scope L' f (.ref c') cl)) (eval body' (envX qual scope L' f (.ref c') cl))
        (fun v s' => LeaveK h₀ L m g R v s')
        (fun e s' => wpAny (model prog w) (A.deeper (envX qual scope L' f (.ref c') cl)) (leaving (envX qual scope L' f (.ref c') cl) e) (fun _ s'' => R (.error e) s'') (fun e' s'' => R (.error e') s'') s')
        { s with heap := h₁, toks := s.toks + binds.length })
    (hco : scope.isCoroutine = false) (hgen : scope.isGenerator = false) (hk : scope.kind = .function)
    (hcell : ∀ x ∈ scope.names, x.2 ≠ .cell) : codeAny (model prog w) A (.call (.ref f) args) R s := by
  obtain ⟨FG, BG, st, lv⟩ := groundX (R := R) B F N hA hf hke
  refine kla_callFunE hroom ho rfl hco hgen rfl hcd ?_
  rw [hbind]
  refine wpAny_pure (wpAny_newFunctionEnv hcell hloc (fun h₁ hns hsb => ⟨((T.nolimit).keeps F.keep).fresh _ hsb, ?_⟩) hk)
  show codeAny _ _ (.expr body' (envX qual scope s.heap.objs.size f (.ref c') cl)) _ _
  have hk₁ : ∀ b o, s.heap.get? b = some o → h₁.get? b = some o := fun b o e => hsb.extBut b o (Nat.ne_of_lt (Heap.lt_size e)) (Heap.get?_push_of_some _ e)
  exact kla_codeExpr (wpAny_mono (h _ s.heap.objs.size h₁ FG ⟨hns, fun b o e => hk₁ b o (of_hideAll _ e), Nat.le_of_eq (hideAll_size _ _)⟩
    (fun p hp => ⟨hk₁ _ _ (N p hp).1, Nat.ne_of_lt (Heap.lt_size (N p hp).1), hideAll_none _ (List.mem_map_of_mem hp)⟩) BG (X₀.keeps st) (T.keeps st) (fun p hp => Heap.lt_size (N p hp).1) (fun b o e n => hideAll_get _ e n)) (fun v s' hl => lv _ _ hl) fun _ _ y => y)

theorem gdefX (B : Below A₀ base outer h₀) (F : Fr h₀ L s.heap m) (X₀ : K.In h₀) (N : News h₀ L s.heap news) (T : Top p loose mean mg mb h₀) (hA : A.frames = some (env :: outer)) (hf : env.frame = some L) (hke : env.scope.kind = .function)
    (ho : K.lookup f = some ⟨oc, od, .func (fnX name qual params body scope cl dV kV doc pm an cdv ct), osl⟩) (hcd : codeIn K cdv qual = true) (hroom : A.depth < recursionLimit)
    (hbind : BindsTo s (fnX name qual params body scope cl dV kV doc pm an cdv ct) args binds) (hloc : ∀ y ∈ binds, scope.names.lookup y.1 = some .local)
    (h : ∀ g L' h₁, Fr h₀ L g m → Fr g L' h₁ (fun y => binds.reverse.lookup y) → News g L' h₁ news → Below A base (env :: outer) g → K.In g → Top p loose mean mg mb g → (∀ p ∈ news, p.1 < L') → (∀ b o, s.heap.get? b = some o → b ∉ news.map (·.1) → g.get? b = some o) →
      wpAny (model prog w) (A.deeper (envX qual scope L' f cdv cl)) (execs body (envX qual scope L' f cdv cl))
        (fun fl s' => LeaveK h₀ L m g R (match fl with | .ret v => v | _ => .none) s')
        (fun e s' => wpAny (model prog w) (A.deeper (envX qual scope L' f cdv cl)) (leaving (envX qual scope L' f cdv cl) e) (fun _ s'' => R (.error e) s'') (fun e' s'' => R (.error e') s'') s')
        { s with heap := h₁, toks := s.toks + binds.length })
    (hco : scope.isCoroutine = false) (hgen : scope.isGenerator = false) (hk : scope.kind = .function) (hcell : ∀ x ∈ scope.names, x.2 ≠ .cell) : codeAny (model prog w) A (.call (.ref f) args) R s := by
  obtain ⟨FG, BG, st, lv⟩ := groundX (R := R) B F N hA hf hke
  refine codeAny_call_def (fd := fnX name qual params body scope cl dV kV doc pm an cdv ct) (body := body) (binds := binds) hroom ((X₀.keeps F.keep) _ _ ho) rfl (T.nolimit.keeps F.keep) (codeRec_of (X₀.keeps F.keep) hcd) rfl hbind hcell hloc (fun h₁ hns hk₁ => ?_) hco hgen hk
  exact wpAny_mono (h _ s.heap.objs.size h₁ FG ⟨hns, fun b o e => hk₁ b o (of_hideAll _ e), Nat.le_of_eq (hideAll_size _ _)⟩
    (fun p hp => ⟨hk₁ _ _ (N p hp).1, Nat.ne_of_lt (Heap.lt_size (N p hp).1), hideAll_none _ (List.mem_map_of_mem hp)⟩) BG (X₀.keeps st) (T.keeps st) (fun p hp => Heap.lt_size (N p hp).1) (fun b o e n => hideAll_get _ e n)) (fun fl s' hl => lv _ _ hl) fun _ _ y => y

theorem gdefX0 (B : Below A₀ base outer h₀) (F : Fr h₀ L s.heap m) (X₀ : K.In h₀) (N : News h₀ L s.heap news) (T : Top p loose mean mg mb h₀) (hA : A.frames = some (env :: outer)) (hf : env.frame = some L) (hke : env.scope.kind = .function)
    (ho : K.lookup f = some ⟨oc, od, .func (fnOf name qual params body scope dV kV doc pm an cdv ct), osl⟩) (hcd : codeIn K cdv qual = true) (hroom : A.depth < recursionLimit)
    (hbind : BindsTo s (fnOf name qual params body scope dV kV doc pm an cdv ct) args binds) (hloc : ∀ y ∈ binds, scope.names.lookup y.1 = some .local)
    (h : ∀ g L' h₁, Fr h₀ L g m → Fr g L' h₁ (fun y => binds.reverse.lookup y) → News g L' h₁ news → Below A base (env :: outer) g → K.In g → Top p loose mean mg mb g → (∀ p ∈ news, p.1 < L') → (∀ b o, s.heap.get? b = some o → b ∉ news.map (·.1) → g.get? b = some o) →
      wpAny (model prog w) (A.deeper (envOf qual scope L' f cdv)) (execs body (envOf qual scope L' f cdv))
        (fun fl s' => LeaveK h₀ L m g R (match fl with | .ret v => v | _ => .none) s')
        (fun e s' => wpAny (model prog w) (A.deeper (envOf qual scope L' f cdv)) (leaving (envOf qual scope L' f cdv) e) (fun _ s'' => R (.error e) s'') (fun e' s'' => R (.error e') s'') s')
        { s with heap := h₁, toks := s.toks + binds.length })
    (hco : scope.isCoroutine = false) (hgen : scope.isGenerator = false) (hk : scope.kind = .function) (hcell : ∀ x ∈ scope.names, x.2 ≠ .cell) : codeAny (model prog w) A (.call (.ref f) args) R s :=
  gdefX B F X₀ N T hA hf hke ho hcd hroom hbind hloc h hco hgen hk hcell

end
section
variable {M : Model} {A : Around} {E : Value → Shared → Prop} {s : Shared} {L a c : Addr} {cn : Str} {cs : Scope} {ccd : Value} {cl : List (Str × Addr)} {x : Str} {pos : Pos} {v : Value} {Q : Value → Shared → Prop} {o : Obj}
theorem nameX_Fh (hc : cl.lookup x = some c) (ho : s.heap.get? c = some o) (hd : o.data = .cell (some v)) (h : Q v s)
    (hk : cs.kind = .function := by rfl) (hx : (envX cn cs L a ccd cl).kindOf x = some .free := by rfl) (hb : (x == ("__debug__" : Str)) = false := by decide) (hn : (x == ("__classdict__" : Str)) = false := by decide) :
    wpAny M A (eval (.Name x pos) (envX cn cs L a ccd cl)) Q E s := wpAny_Name (wpAny_loadName_free hk hx hc ⟨o, ho, hd⟩ h hn) hb
end
end Mine
end

section
open PySem PySem.W PyProof.Rows PySem.Calls
set_option maxRecDepth 100000
set_option maxHeartbeats 8000000
namespace Mine
theorem fm5 {n : Nat} : (n : Int).fmod 5 = 0 ↔ n % 5 = 0 := by rw [Int.fmod_eq_emod_of_nonneg _ (by decide)]; omega
theorem sz5 {vs : List Value} {x : Value} : (vs ++ [x]).toArray.size = vs.length + 1 := by simp
theorem item_last {prog : Program} {w : World} {A : Around} {E : Value → Shared → Prop} {s : Shared} {value slice : Expr} {l : Addr} {vs : List Value} {x : Value} {u : Tok} {Q : Value → Shared → Prop} (hl : s.heap.IsList l (vs ++ [x]).toArray) (h : Q x s)
    (hs : subscripted slice false (.ref l) (.int (-1) u) = operate [.ref l, .int (-1) u] (getItem (.ref l) (.int (-1) u)) := by with_unfolding_all rfl) :
    wpAny (model prog w) A (subscriptTail value slice (.ref l) (.int (-1) u)) Q E s :=
  tail_any hl.typeIs slot_list_getitem.lookup (wpAny_getItem_list_neg hl (by decide) (by simp; omega) (by decide) (by simp; rw [show (-1 + ((vs.length : Int) + 1)).toNat = vs.length by omega]; simp) h) hs
end Mine
section
open Mine
local macro_rules | `(tactic| k_room) => `(tactic| (simp only [depth_deeper, recursionLimit] at *; omega))
local macro_rules | `(tactic| walk_at "call builtin:len") => `(tactic| (k_here; (with_reducible show wpAny _ _ (call (Value.builtin "len") [Value.ref _]) _ _ _); refine len_list (News.isList (by k_asm) (by k_mem)) (by (simp only [Array.size_push, List.size_toArray, List.length_append, List.length_cons, List.length_nil]; omega)) ?_))
local macro_rules | `(tactic| walk_at "subscriptTail") => `(tactic| (k_here; (with_reducible show wpAny _ _ (subscriptTail _ _ (Value.ref _) (Value.int (-1) _)) _ _ _); k_dflt (refine' item_last ?k1 ?_ ?k2; (case k1 => exact News.isList (by assumption) (.tail _ (.head _))); (case k2 => with_unfolding_all rfl); k_whole)))
local macro_rules | `(tactic| walk_at "exec Raise some none") => `(tactic| (k_here; with_unfolding_all refine Raise_madeB PySem.F.excCall_ValueError PySem.F.excRaise_ValueError rfl (nameX_B (by k_asm) (by k_asm) (topRead_of (by k_asm)) (by k_is) PyProof.Rows.Boot.«ValueError» (by decide) ⟨rfl, ?_⟩)))
local macro_rules | `(tactic| walk_at "leaving ref") => `(tactic| (k_here; (refine' leave_raiseS ?k1 ?k0 ?k2 ?k3 ?_; (case k0 => exact Heap.MadeExc.of (by assumption)); (case k2 => assumption); (case k1 => assumption); (case k3 => k_asm); k_whole; intro h' t' S' R' U'; (try dsimp only at S' R' U' ⊢))))
local macro_rules | `(tactic| k_all) => `(tactic| assumption)
namespace Mine
theorem made_call {w : World} {A₀ : Around} {dep un : Nat} {gd : Option (List Code)} {base h₀ : Heap} {outer : List Env} {env : Env} {L : Addr} {m mg mb : Str → Option Value}
  {M : Addr} {vs : List Value} {n : Nat} {post : List (Addr × Obj)} {s : Shared} {p : Program} {loose : List Str} {mean : ExcName → Option Value} {R : Result → Shared → Prop}
  (B : Below A₀ base outer h₀) (F : Fr h₀ L s.heap m) (N : News h₀ L s.heap ((M, W.listOf vs.toArray n) :: post)) (T : Top p loose mean mg mb h₀)
  (hfr : env.frame = some L) (hke : env.scope.kind = .function)
  (hpost : ∀ p ∈ post, p.1 ≠ M)
  (hdep : dep ≤ 560) (hvs : vs.length ≤ 60)
  (hok : ∀ l h' tk t, (vs.length + 1) % 5 ≠ 0 → Fr h₀ L h' m → News h₀ L h' ((l, W.listOf #[Value.int vs.length t] 0) :: (M, W.listOf (vs ++ [Value.ref l]).toArray (n + 1)) :: post) → M < l ∧ AllLt l post → R (.ok (.ret (.ref l))) { s with heap := h', toks := tk })
  (herr : ∀ l t g₂ e ta u h' tk, (vs.length + 1) % 5 = 0 → Fr h₀ L g₂ m → RaisedS base g₂ (env :: outer) e (.type "ValueError") ta [.str "no more" u] ((l, W.listOf #[Value.int vs.length t] 0) :: (M, W.listOf (vs ++ [Value.ref l]).toArray (n + 1)) :: post) h' → g₂.UpToSlots h' → M < l ∧ AllLt l post →
    R (.error (.ref e)) { s with heap := h', toks := tk }) : (hd.heap_39 w.params).In h₀ →
  codeAny (model PySem.Challenge.rw_il0026_01.row.prog w) ⟨none, dep, some (env :: outer), gd, un⟩ (.call (.ref 69) ⟨[.ref M], []⟩) R s := by
  w_top off
  k_fill
  intro X₀
  refine' gdefK ?k1 ?k2 ?k3 ?k4 ?k5 ?kA ?kf ?ke ?k6 ?k7 ?k8 ?k9 ?kB ?_ ?c2 ?c3 ?c4 ?c5
  case kA => exact rfl
  case kf => exact hfr
  case ke => exact hke
  case k2 => exact F
  case k1 => exact B
  case k3 => exact X₀
  case k4 => exact N
  case k5 => exact T
  case k6 => k_is
  case k7 => k_is
  case k8 => show dep < _; k_room
  case k9 => first | exact binds_K (by k_in) rfl (by k_is) rfl rfl rfl | exact BindsTo.of_eq rfl
  case kB => exact locs rfl
  case c2 => exact rfl
  case c3 => exact rfl
  case c4 => exact rfl
  case c5 => decide
  intro g' L' h' FG' F' N' B' X' T' l'
  try dsimp only
  k_steps
  · rename Int.fmod _ _ = _ => q
    exact herr _ _ _ _ _ _ _ _ (by rw [sz5] at q; exact fm5.mp q) (by assumption) (by assumption) (by assumption) (by assumption)
  · refine' item_last (News.isList (by assumption) (.tail _ (.head _))) ?_ (by with_unfolding_all rfl)
    k_steps
    rename Int.fmod _ _ ≠ _ => q
    exact hok _ _ _ _ (by rw [sz5] at q; exact fun z => q (fm5.mpr z)) (by assumption) (by assumption) (by assumption)
end Mine
end
end

section
open PySem PySem.W PyProof.Rows PySem.Calls
set_option maxRecDepth 100000
set_option maxHeartbeats 8000000
namespace Mine
def Hold (P : Prop) : Prop := P
abbrev lamScope : Scope := ⟨.function, [("made", .free), ("_law_made", .globalImplicit)], false, false, []⟩
abbrev noArgs : Arguments := ⟨[], [], none, [], [], none, []⟩
structure Sta (h : Heap) (Fa M : Addr) : Prop where
  all : ∃ qual pm cF ctv cm p1 p2 p3 oc, h.get? Fa = some (kla_obj "<lambda>" qual noArgs (.Call (.Name "_law_made" p1) [.Name "made" p2] [] p3) lamScope [("made", cm)] pm cF ctv) ∧ h.CodeRec (.ref cF) qual ∧ h.get? cm = some oc ∧ oc.data = .cell (some (.ref M))
theorem Sta.keeps {h h' : Heap} {Fa M : Addr} (S : Sta h Fa M) (k : ∀ b o, h.get? b = some o → h'.get? b = some o) : Sta h' Fa M := by
  obtain ⟨qual, pm, cF, ctv, cm, p1, p2, p3, oc, a1, ⟨c, oc', vs, tq, e1, e2, e3, e4⟩, a3, a4⟩ := S.all
  exact ⟨qual, pm, cF, ctv, cm, p1, p2, p3, oc, k _ _ a1, ⟨c, oc', vs, tq, e1, k _ _ e2, e3, e4⟩, k _ _ a3, a4⟩
end Mine
section
open Mine
local macro_rules | `(tactic| k_room) => `(tactic| (simp only [depth_deeper, recursionLimit] at *; omega))
local macro_rules | `(tactic| k_all) => `(tactic| assumption)
local macro_rules | `(tactic| walk_at "eval Name") => `(tactic| (k_here; (with_reducible show wpAny _ _ (eval (Expr.Name ("made" : Str) _) _) _ _ _); with_unfolding_all refine nameX_Fh rfl (Fr.keep (by assumption) _ _ (by assumption)) (by assumption) ?_))
local macro_rules | `(tactic| walk_at "call ref") => `(tactic| (k_here; k_dflt (show Hold (wpAny _ _ (call (Value.ref 69) _) _ _ _))))
local macro_rules | `(tactic| walk_at "leaving ref") => `(tactic| (k_here; refine gleave_onS rfl rfl (by assumption) (by assumption) (by assumption) ?_; intro h1 R1 U1))
namespace Mine
theorem lamF_call {w : World} {A₀ : Around} {dep un : Nat} {gd : Option (List Code)} {base h₀ : Heap} {outer : List Env} {env : Env} {L : Addr} {m mg mb : Str → Option Value}
  {Fa M : Addr} {vs : List Value} {n : Nat} {post : List (Addr × Obj)} {s : Shared} {p : Program} {loose : List Str} {mean : ExcName → Option Value} {R : Result → Shared → Prop}
  (B : Below A₀ base outer h₀) (F : Fr h₀ L s.heap m) (N : News h₀ L s.heap ((M, W.listOf vs.toArray n) :: post)) (T : Top p loose mean mg mb h₀)
  (hfr : env.frame = some L) (hke : env.scope.kind = .function)
  (hpost : ∀ p ∈ post, p.1 ≠ M) (S : Sta h₀ Fa M)
  (hdep : dep ≤ 550) (hvs : vs.length ≤ 60)
  (hok : ∀ l h' tk t, (vs.length + 1) % 5 ≠ 0 → Fr h₀ L h' m → News h₀ L h' ((l, W.listOf #[Value.int vs.length t] 0) :: (M, W.listOf (vs ++ [Value.ref l]).toArray (n + 1)) :: post) → M < l ∧ AllLt l post → R (.ok (.ret (.ref l))) { s with heap := h', toks := tk })
  (herr : ∀ l t g₂ e ta u h' tk, (vs.length + 1) % 5 = 0 → Fr h₀ L g₂ m → RaisedS base g₂ (env :: outer) e (.type "ValueError") ta [.str "no more" u] ((l, W.listOf #[Value.int vs.length t] 0) :: (M, W.listOf (vs ++ [Value.ref l]).toArray (n + 1)) :: post) h' → g₂.UpToSlots h' → M < l ∧ AllLt l post →
    R (.error (.ref e)) { s with heap := h', toks := tk }) : (hd.heap_39 w.params).In h₀ →
  codeAny (model PySem.Challenge.rw_il0026_01.row.prog w) ⟨none, dep, some (env :: outer), gd, un⟩ (.call (.ref Fa) ⟨[], []⟩) R s := by
  w_top off
  k_fill
  intro X₀
  obtain ⟨qual, pm, cF, ctv, cm, p1, p2, p3, oc, a1, a2, a3, a4⟩ := S.all
  refine' lam_code B F X₀ N T rfl hfr hke (F.keep _ _ a1) (a2.keeps F.keep) (by show dep < _; k_room) (by rfl) (locs rfl) ?_ rfl rfl rfl (by decide)
  intro g' L' h' FG' F' N' B' X' T' l' kg
  have a3' : g'.get? cm = some oc := FG'.keep _ _ a3
  try dsimp only
  k_steps
  show wpAny _ _ (call (Value.ref 69) _) _ _ _
  refine wpAny_call (made_call (by assumption) (by assumption) (by assumption) (by assumption) rfl rfl (by assumption) (by show dep + 1 ≤ 560; omega) (by assumption) ?_ ?_ (by assumption))
  · intro l1 h1 t1 t2 q1 F1 N1 o1
    dsimp only
    k_steps
    exact hok _ _ _ _ q1 (by assumption) (by assumption) o1
  · intro l1 t1 g1 e1 a1 u1 h1 t2 q1 G1 R1 U1 o1
    dsimp only
    k_steps
    exact herr _ _ _ _ _ _ _ _ q1 FG' (by assumption) (by assumption) o1
end Mine
end
end

section
open PySem PySem.W PyProof.Rows PySem.W.X
set_option maxRecDepth 100000
set_option maxHeartbeats 8000000
namespace Mine
theorem mem_keeps {h₀ h : Heap} {news : List (Addr × Obj)} (D : Mem h₀ h [] news) : ∀ a o, h₀.get? a = some o → h.get? a = some o := fun a o e => D.keep a o e (by simp [away])
section
local macro_rules | `(tactic| x_close) => `(tactic| (rename (∀ (_ : Heap) (_ : Nat), _ → _) => hq; first | exact hq _ _ (mem_keeps (by assumption)) | exact hq _ _ (fun _ _ e => e)))
theorem ga_df {w : World} {A : Around} {E : Value → Shared → Prop} {s : Shared} {b DD Fa : Addr} {es : Array DictEntry} {ep : Nat} {t : Tok} {Q : Value → Shared → Prop}
  (X : (hd.heap_39 w.params).In s.heap) (hb : s.heap.get? b = some (bobj DD (some (.ref Fa)) es ep)) 
  (h : ∀ h' tk, (∀ a o, s.heap.get? a = some o → h'.get? a = some o) → Q (.ref Fa) { s with heap := h', toks := tk }) :
  wpAny (model PySem.Challenge.rw_il0026_01.row.prog w) A (call (.builtin "collections.defaultdict.__getattribute__") [.ref b, .str "default_factory" t]) Q E s := by
  unfold bobj at hb
  x_run
theorem ga_0 {w : World} {dep un : Nat} {gd : Option (List Code)} {env : Env} {outer : List Env} {E : Value → Shared → Prop} {s : Shared} {F : Option Value} {b DD mb : Addr} {es : Array DictEntry} {ep n : Nat} {t : Tok} {Q : Value → Shared → Prop}
  (X : (hd.heap_39 w.params).In s.heap) (hb : s.heap.get? b = some (bobj DD F es ep)) (hD : s.heap.get? DD = some ⟨.type "dict", none, .dict #[] n, #[]⟩) 
  (h : ∀ h' tk, (∀ a o, s.heap.get? a = some o → h'.get? a = some o) → Q (.ref mb) { s with heap := h', toks := tk }) :
  wpAny (model PySem.Challenge.rw_il0026_01.row.prog w) ⟨none, dep, some (env :: outer), gd, un⟩ (call (.builtin "getattr") [.ref b, .str "_frozen" t, .ref mb]) Q E s := by
  unfold bobj at hb
  x_run
theorem ga_1 {w : World} {A : Around} {E : Value → Shared → Prop} {s : Shared} {b DD Fa mb fl : Addr} {es : Array DictEntry} {ep n : Nat} {t u : Tok} {hh : Int} {Q : Value → Shared → Prop}
  (X : (hd.heap_39 w.params).In s.heap) (hb : s.heap.get? b = some (bobj DD (some (.ref Fa)) es ep)) (hD : s.heap.get? DD = some ⟨.type "dict", none, .dict #[⟨hh, .str "_frozen" u, .ref fl⟩] n, #[]⟩) 
  (h : ∀ h' tk, (∀ a o, s.heap.get? a = some o → h'.get? a = some o) → Q (.ref fl) { s with heap := h', toks := tk }) :
  wpAny (model PySem.Challenge.rw_il0026_01.row.prog w) A (call (.builtin "getattr") [.ref b, .str "_frozen" t, .ref mb]) Q E s := by
  unfold bobj at hb
  x_run
end
section
local macro_rules | `(tactic| x_close) => `(tactic| (rename (∀ (_ : Addr) (_ : Heap), _ → _) => hq; rename Mem _ _ _ _ => D; exact hq _ _ (mem_keeps D) (D.at 0 _ _ rfl)))
abbrev bndObj (b : Addr) : Obj := { cls := .type "builtin_function_or_method", dict := none, data := .fields #[.builtin "collections.defaultdict.__missing__", .ref b], slots := #[] }
theorem md_get {w : World} {A : Around} {E : Value → Shared → Prop} {s : Shared} {F : Option Value} {b DD : Addr} {es : Array DictEntry} {ep : Nat} {Q : Value → Shared → Prop}
  (X : (hd.heap_39 w.params).In s.heap) (hb : s.heap.get? b = some (bobj DD F es ep))
  (h : ∀ a h', (∀ a o, s.heap.get? a = some o → h'.get? a = some o) → h'.get? a = some (bndObj b) → Q (.ref a) { s with heap := h' }) :
  wpAny (model PySem.Challenge.rw_il0026_01.row.prog w) A (call (.builtin "method_descriptor.__get__") [.builtin "collections.defaultdict.__missing__", .ref b, .ref 58]) Q E s := by
  unfold bobj at hb
  x_run
end
end Mine
end

section
open PySem PySem.W PyProof.Rows PySem.Calls
set_option maxRecDepth 100000
set_option maxHeartbeats 8000000
namespace Mine
theorem fk_sup (P : Params) : ks_superIn (hd.heap_39 P) 58 58 "__missing__" = some (some (.builtin "collections.defaultdict.__missing__")) := by kernel_rfl
theorem fk_any (P : Params) : nsIn (hd.heap_39 P) cStatics "thirdparty.any" = some none := by kernel_rfl
theorem fk_cls (P : Params) : (clsIn (hd.heap_39 P) 58).isSome = true := by kernel_rfl
theorem ty_miss : typeOf (.builtin "collections.defaultdict.__missing__") = pure (.type "method_descriptor") := by kernel_rfl
theorem lk_get : typeLookup (.type "method_descriptor") "__get__" = pure (some (.builtin "method_descriptor.__get__")) := by rw [typeLookup_type, builtinLookup_eq_fast]; kernel_rfl

section
variable {w : World} {A : Around} {E : Value → Shared → Prop} {Fo : Option Value} {b DD so : Addr} {es : Array DictEntry} {ep : Nat}
theorem su_ga {h : Heap} {g : Array GenState} {d : Drawn} {t : Nat} {os : OsState} {tk : Tok} {Q : Fin → Shared → Prop} (X : (hd.heap_39 w.params).In h) (hb : h.get? b = some (bobj DD Fo es ep)) (hso : h.get? so = some (ks_superObj 58 b 58)) (hne : b ≠ 58)
    (hq : ∀ a h', (∀ a o, h.get? a = some o → h'.get? a = some o) → h'.get? a = some (bndObj b) → Q (.done (.ret (.ref a))) ⟨h', g, d, t, os⟩) :
    wpAny (model PySem.Challenge.rw_il0026_01.row.prog w) A (Builtin.«super.__getattribute__» ⟨[.ref so, .str "__missing__" tk], []⟩) Q E ⟨h, g, d, t, os⟩ := by
  obtain ⟨cd, hc⟩ := Option.isSome_iff_exists.mp (fk_cls w.params)
  have hm := fk_sup w.params
  unfold ks_superIn at hm
  rw [hc, Option.bind_some] at hm
  have hC : Looks (model PySem.Challenge.rw_il0026_01.row.prog w) h (mroOf (.ref 58)) cd.mro := (looks_clsIn X hc).andThen .now
  have hno : Looks (model PySem.Challenge.rw_il0026_01.row.prog w) h (opaqueClassAbove (.ref 58)) none := looks_opaque X (fk_any _)
  have hxC : (Value.ref b == Value.ref 58) = false := by simp [hne]
  have hdt : (ks_superObj 58 b 58).data = .fields #[.ref 58, .ref b, .ref 58] := rfl
  have f0 : (#[.ref 58, .ref b, .ref 58] : Array Value)[0]? = some (.ref 58) := rfl
  have f1 : (#[.ref 58, .ref b, .ref 58] : Array Value)[1]? = some (.ref b) := rfl
  have f2 : (#[.ref 58, .ref b, .ref 58] : Array Value)[2]? = some (.ref 58) := rfl
  have hn : ((Str.ofString "__missing__") == ("__class__" : Str)) = false := by decide
  generalize hl : (cd.mro.dropWhile (· != .ref 58)).drop 1 = l at hm
  unfold Builtin.«super.__getattribute__»
  repeat (first
    | (with_reducible refine wpAny_field hso hdt f0 ?_) | (with_reducible refine wpAny_field hso hdt f1 ?_) | (with_reducible refine wpAny_field hso hdt f2 ?_)
    | (with_reducible refine ks_wpAny_notOpaque hno ?_)
    | (with_reducible refine Looks.at hC ?_; rw [hl])
    | (refine ks_forIn_along X (fun _ _ => rfl) rfl ?_ hm)
    | (simp only [hn, hxC, Bool.or_false, Bool.false_eq_true, if_false])
    | wp_step
    | dsimp only)
  have e : builtinKind "collections.defaultdict.__missing__" = some .method := by kernel_rfl
  simp only [e]
  refine wpAny_of_eq lk_get ?_
  refine wpAny_bind (wpAny_holding (md_get (s := ⟨h, g, d, t, os⟩) X hb fun a h' k1 k2 => ?_))
  exact wpAny_bind (wpAny_pure (wpAny_pure (wpAny_pure (hq a h' k1 k2))))

theorem su_attr {s : Shared} {Q : Value → Shared → Prop} (X : (hd.heap_39 w.params).In s.heap) (hb : s.heap.get? b = some (bobj DD Fo es ep)) (hso : s.heap.get? so = some (ks_superObj 58 b 58)) (hne : b ≠ 58)
    (hq : ∀ a h' tk, (∀ a o, s.heap.get? a = some o → h'.get? a = some o) → h'.get? a = some (bndObj b) → Q (.ref a) { s with heap := h', toks := tk }) :
    wpAny (model PySem.Challenge.rw_il0026_01.row.prog w) A (getAttr (.ref so) "__missing__" true) Q E s := by
  obtain ⟨h, g, d, t, os⟩ := s
  have hlk := F.ks_slot_super_ga.lookup
  have hT : ∀ t', (⟨h, g, d, t', os⟩ : Shared).TypeIs (.ref so) "super" := fun _ => ⟨_, hso, rfl⟩
  unfold getAttr getAttrBy
  refine wpAny_bind (wpAny_mkText (wpAny_holding (wpAny_bind (wpAny_typeOf (hT _) (wpAny_bind (wpAny_of_eq hlk ?_))))))
  show wpAny _ _ (getAttrByItsOwn (.ref so) (.str "__missing__" t) (.type "super") (.builtin "super.__getattribute__") true true) _ _ _
  unfold getAttrByItsOwn hookBefore callGetattribute boundAndCalled
  refine wpAny_bind (wpAny_of_eq (show (if onTheHeap (.type "super") then typeLookup (.type "super") "__getattr__" else pure none) = pure none from rfl) ?_)
  refine wpAny_bind (wpAny_attempt (wpAny_holding ?_))
  show wpAny _ _ (bindSpecial (.builtin "super.__getattribute__") (.ref so) >>= _) _ _ _
  refine wpAny_bind (wpAny_of_eq (F.ks_slot_super_ga.bind _) ?_)
  refine wpAny_mono (Q := fun v s' => ∃ a h', v = .ref a ∧ s' = ⟨h', g, d, t + 1, os⟩ ∧ (∀ a o, h.get? a = some o → h'.get? a = some o) ∧ h'.get? a = some (bndObj b)) (E := fun _ _ => False)
    (wpAny_call_entry F.ks_slot_super_ga (hT _) F.ks_entry_super_ga (su_ga X hb hso hne fun a h' k1 k2 => ⟨_, rfl, a, h', rfl, rfl, k1, k2⟩) (F.ks_gaArgs_super _ _)) (fun v s' hv => ?_) fun _ _ z => z.elim
  obtain ⟨a, h', rfl, rfl, k1, k2⟩ := hv
  exact wpAny_pure (hq a h' _ k1 k2)
end

section
variable {M : Model} {A : Around} {c : Code} {E : Value → Shared → Prop} {s : Shared} {env : Env}
theorem at_args_cons {e : Expr} {rest : List Expr} {pos : Pos} {Q : List Value → Shared → Prop}
    (h : _root_.PySem.wpAt M A c (eval e env) (fun v s₁ => _root_.PySem.wpAt M A c (spliced (backTo pos (starEach rest env))) (fun vs s₂ => Q (v :: vs) s₂) E s₁) E s)
    (he : starEach (e :: rest) env = (false, eval e env) :: starEach rest env := by rfl) : _root_.PySem.wpAt M A c (spliced (backTo pos (starEach (e :: rest) env))) Q E s := by
  rw [he]
  show _root_.PySem.wpAt M A c (spliced ((false, eval e env) :: backTo pos (starEach rest env))) Q E s
  rw [spliced]
  refine _root_.PySem.wpAt_bind (_root_.PySem.wpAt_mono h (fun v s₁ h₁ => ?_) fun _ _ x => x)
  simp only [Bool.false_eq_true, if_false]
  exact _root_.PySem.wpAt_bind (_root_.PySem.wpAt_of_wpAny (wpAny_pure (_root_.PySem.wpAt_bind (ks_wpAt_holding (_root_.PySem.wpAt_mono h₁ (fun vs s₂ h₂ => _root_.PySem.wpAt_of_wpAny (wpAny_pure h₂)) fun _ _ x => x)))))
theorem at_callWith {pos : Pos} {id : String} {e : Expr} {rest : List Expr} {Q : Value → Shared → Prop}
    (h : _root_.PySem.wpAt M A c (spliced (backTo pos (starEach (e :: rest) env))) (fun vs s₁ => wpAny M A (call (.builtin id) vs) Q E s₁) E s)
    (he : starEach (e :: rest) env = (false, eval e env) :: starEach rest env := by rfl) (hplain : (backTo pos (starEach (e :: rest) env)).any (·.1) = false := by rfl) :
    _root_.PySem.wpAt M A c (callWith pos (.builtin id) [] (backTo pos (starEach (e :: rest) env)) []) Q E s := by
  unfold callWith
  refine _root_.PySem.wpAt_bind (ks_wpAt_holding (_root_.PySem.wpAt_mono (Q := fun a s₁ => wpAny M A (call (.builtin id) a.pos a.kw) Q E s₁) ?_ (fun a s₁ h₁ => _root_.PySem.wpAt_of_wpAny (wpAny_bind (wpAny_standAt ?_))) fun _ _ x => x))
  · rw [he] at h ⊢
    unfold evalArgs
    show _root_.PySem.wpAt M A c (spliced ((false, eval e env) :: backTo pos (starEach rest env)) >>= _) _ E s
    refine _root_.PySem.wpAt_bind (_root_.PySem.wpAt_mono h (fun vs s' h' => ?_) fun _ _ x => x)
    exact _root_.PySem.wpAt_of_wpAny (wpAny_bind (wpAny_pure (wpAny_holding (wpAny_bind (wpAny_pure (wpAny_bind (wpAny_pure (wpAny_pure h'))))))))
  · simp only [hplain, List.any_nil, Bool.or_false]
    refine wpAny_bind (wpAny_pure ?_)
    exact wpAny_bind (wpAny_mono h₁ (fun r s₂ hr => wpAny_bind (wpAny_holding (wpAny_point (wpAny_pure hr)))) fun _ _ x => x)
theorem at_Call {func : Expr} {args : List Expr} {pos : Pos} {Q : Value → Shared → Prop}
    (h : _root_.PySem.wpAt M A c (eval func env) (fun f s₁ => _root_.PySem.wpAt M A c (callWith pos f [] (backTo pos (starEach args env)) []) Q E s₁) E s)
    (he : eval (.Call func args [] pos) env = (do callWith pos (← eval func env) [] (backTo pos (starEach args env)) (backToKw pos (keywordEach [] env))) := by rfl) :
    _root_.PySem.wpAt M A c (eval (.Call func args [] pos) env) Q E s := by
  rw [he]; exact _root_.PySem.wpAt_bind h
end
section
variable {prog : Program} {w : World} {A : Around} {c : Code} {E : Value → Shared → Prop} {s : Shared} {env : Env}
theorem at_Attribute {value : Expr} {attr : Str} {pos : Pos} {Q : Value → Shared → Prop}
    (h : _root_.PySem.wpAt (model prog w) A c (attributeBase value attr env (eval value env)) (fun o s₁ => wpAny (model prog w) A (getAttr o attr true) Q E s₁) E s) : _root_.PySem.wpAt (model prog w) A c (eval (.Attribute value attr pos) env) Q E s := by
  rw [arm_eval_Attribute]
  refine _root_.PySem.wpAt_bind (_root_.PySem.wpAt_mono h (fun o s₁ h₁ => _root_.PySem.wpAt_of_wpAny (wpAny_bind (wpAny_standAt (wpAny_bind (wpAny_holding (wpAny_mono h₁ (fun r s₂ h₂ => ?_) fun _ _ y => y)))))) fun _ _ y => y)
  exact wpAny_bind (wpAny_letTemporaryGo (wpAny_pure h₂))
end
end Mine
end

section
open PySem PySem.W PyProof.Rows PySem.Calls
set_option maxRecDepth 100000
set_option maxHeartbeats 8000000
namespace Mine
theorem fk_mod (P : Params) : subIn (hd.heap_39 P) (.ref 58) (.type "module") = some false := by kernel_rfl
theorem fk_type (P : Params) : typeIn (hd.heap_39 P) (.ref 58) = some (.type "type") := by kernel_rfl
theorem e_miss : entryFor table "collections.defaultdict.__missing__" = some Builtin.«collections.defaultdict.__missing__» := entryFor_of_tree (by kernel_rfl)
theorem sg_miss : Manifest.signature? "collections.defaultdict.__missing__" = some ⟨.oneArg, "defaultdict.__missing__", "__missing__", .self, [⟨"object", .posOnly, true⟩]⟩ := by kernel_rfl
theorem kd_miss : builtinKind "collections.defaultdict.__missing__" = some .method := by kernel_rfl
theorem q_miss (args : Args) : (Code.builtin "collections.defaultdict.__missing__" args).quiet = true := by kernel_rfl
theorem q_sd (args : Args) : (Code.builtin "dict.setdefault" args).quiet = true := by kernel_rfl

section
variable {prog : Program} {w : World} {A : Around} {E : Value → Shared → Prop} {s : Shared} {b DD Fa : Addr} {es : Array DictEntry} {ep : Nat} {kvs : List (Key × Value)} {k : Key} {key v : Value} {R : Result → Shared → Prop}
theorem chk_bound {F : Option Value} {Q : Unit → Shared → Prop} (X : (hd.heap_39 w.params).In s.heap) (hb : s.heap.get? b = some (bobj DD F es ep)) (q : Q () s) :
    wpAny (model prog w) A (checkBoundCall "collections.defaultdict.__missing__" ⟨[.ref b, key], []⟩) Q E s := by
  obtain ⟨cd, hc, hqn⟩ := Option.map_eq_some_iff.mp (show (clsIn (hd.heap_39 w.params) 58).map (·.qualname) = some (Str.ofString "FreezableDefaultDict") by kernel_rfl)
  obtain ⟨h, g, d, t, os⟩ := s
  unfold checkBoundCall
  simp only [sg_miss, kd_miss]
  refine wpAny_bind ((b_inst X hb (fk_mod _)).here ?_)
  rw [if_neg (by decide +kernel)]
  refine wpAny_bind (ks_wpAny_isType_inst hb (fun c e => by cases e) ?_)
  simp only [Bool.false_eq_true, if_false]
  refine wpAny_bind ((b_type hb).here ?_)
  dsimp only
  refine wpAny_bind ((looks_clsIn (K := hd.heap_39 w.params) X hc).here ?_)
  refine wpAny_bind ((looks_typeIn X (fk_type _)).here ?_)
  rw [if_pos (by rfl), hqn]
  refine wpAny_of_eq (by kernel_rfl) q

theorem t_setdefault {dflt : Value} (X : (hd.heap_39 w.params).In s.heap) (hb : s.heap.get? b = some (bobj DD (some (.ref Fa)) es ep)) (I : Bk prog w es kvs) (hkey : isKey k key = true) (hsz : kvs.length ≤ 1000) (hne : (b == sysModules) = false)
    (hv : valueAt kvs k = none)
    (h2 : ∀ h' es' ep', h'.get? b = some (bobj DD (some (.ref Fa)) es' ep') → Bk prog w es' (kvs ++ [(k, dflt)]) → Heap.SameBut b s.heap h' → R (.ok (.ret dflt)) { s with heap := h', toks := s.toks + 1 }) :
    codeAny (model prog w) A (.builtin "dict.setdefault" ⟨[.ref b, key, dflt], []⟩) R s := by
  refine codeAny_builtin PySem.F.entry_dict_setdefault ?_
  unfold Builtin.«dict.setdefault»
  refine wpAny_bind ?_
  unfold Builtin.Dict.keyAndDefault
  refine wpAny_bind (b_notOrdered X hb rfl ?_)
  show wpAny _ _ (pure (b, key, some dflt)) _ _ s
  refine wpAny_pure ?_
  show wpAny _ _ (if (b == sysModules) = true then _ else (dictSetDefault b key dflt >>= _)) _ _ s
  rw [if_neg (by rw [hne]; exact Bool.false_ne_true)]
  exact wpAny_bind (b_setDefault hb I hkey hsz (fun v hv' => by rw [hv] at hv'; cases hv') fun hv h' es' ep' a1 a2 a3 => wpAny_pure (h2 h' es' ep' a1 a2 a3))

theorem wpAny_callBorrowed {f : Value} {Q : Value → Shared → Prop} (h : codeAny (model prog w) A (.call f ⟨[], []⟩) (fun r s' => match r with | .ok (.ret v) => Q v s' | .ok _ => False | .error e => E e s') s) :
    wpAny (model prog w) A (callBorrowed f []) Q E s := by
  have mk : A.mark none = A := rfl
  refine X.x_call (hd := none) ?_ (by intro e; cases e)
  rw [mk]
  refine codeAny_mono h fun r s' hr => ?_
  rcases r with e | (_ | _ | _ | _) <;> first | exact wpAny_pure hr | exact wpAny_throw hr | exact hr.elim

theorem c_bound {a : Addr} {fo : FuncData} {oF : Obj} (X : (hd.heap_39 w.params).In s.heap) (hb : s.heap.get? b = some (bobj DD (some (.ref Fa)) es ep)) (ha : s.heap.get? a = some (bndObj b)) (hF : s.heap.get? Fa = some oF) (hFd : oF.data = .func fo)
    (h : codeAny (model prog w) A.in1 (.call (.ref Fa) ⟨[], []⟩) (fun r s' => match r with | .ok (.ret v) => codeAny (model prog w) A (.builtin "dict.setdefault" ⟨[.ref b, key, v], []⟩) R s' | .ok _ => False | .error e => R (.error e) s') s) :
    codeAny (model prog w) A (.call (.ref a) ⟨[key], []⟩) R s := by
  refine codeAny_of_tree ?_
  show wpAny _ _ (callAny (.ref a) _) _ _ _
  unfold callAny
  refine wpAny_bind (wpAny_load ha ?_)
  show wpAny _ _ (do checkBoundCall "collections.defaultdict.__missing__" ⟨[.ref b, key], []⟩; again (.builtin "collections.defaultdict.__missing__" ⟨[.ref b, key], []⟩)) _ _ _
  refine wpAny_bind (chk_bound X hb ?_)
  refine wpAny_pure ⟨q_miss _, ?_⟩
  refine codeAny_builtin e_miss ?_
  show wpAny _ A.in1 (Builtin.Collections_defaultdict.factory? (.ref b) >>= _) _ _ _
  unfold Builtin.Collections_defaultdict.factory? slotAt
  refine wpAny_bind (wpAny_bind (wpAny_bind (wpAny_loadPart hb (wpAny_pure (wpAny_pure ?_)))))
  show wpAny _ A.in1 (callOutOfASlot (.ref Fa) >>= _) _ _ _
  unfold callOutOfASlot borrowsExactly
  refine wpAny_bind (wpAny_bind ?_)
  refine wpAny_bind (wpAny_load hF ?_)
  rw [hFd]
  refine wpAny_pure ?_
  rw [if_pos rfl]
  refine wpAny_callBorrowed (codeAny_mono h fun r s' hr => ?_)
  rcases r with e | (_ | _ | _ | _) <;> first | exact hr | exact hr.elim | exact wpAny_pure ⟨q_sd _, hr⟩
end
end Mine
end

section
open PySem PySem.W PyProof.Rows PySem.Calls
set_option maxRecDepth 100000
set_option maxHeartbeats 8000000
namespace Mine
theorem fk_df (P : Params) : findIn (hd.heap_39 P) (.ref 58) "default_factory" = some (some (.builtin "collections.defaultdict.default_factory")) := by kernel_rfl
theorem ty_df : ∃ t, typeOf (.builtin "collections.defaultdict.default_factory") = pure t ∧ (t != .type "function" && t != .type "method_descriptor" && t != .type "wrapper_descriptor") = true := ⟨.type "member_descriptor", by kernel_rfl, by decide +kernel⟩
theorem bs_ga (self : Value) : bindSpecial (.builtin "collections.defaultdict.__getattribute__") self = pure (.builtin "collections.defaultdict.__getattribute__", [self]) := bi_bind (by decide +kernel) (by decide +kernel) (by decide +kernel) self

theorem b_getAttr {w : World} {A : Around} {E : Value → Shared → Prop} {s : Shared} {b DD Fa : Addr} {es : Array DictEntry} {ep : Nat} {Q : Value → Shared → Prop}
    (X : (hd.heap_39 w.params).In s.heap) (hb : s.heap.get? b = some (bobj DD (some (.ref Fa)) es ep))
    (h : ∀ h' tk, (∀ a o, s.heap.get? a = some o → h'.get? a = some o) → Q (.ref Fa) { s with heap := h', toks := tk }) :
    wpAny (model PySem.Challenge.rw_il0026_01.row.prog w) A (getAttr (.ref b) "default_factory" false) Q E s := by
  obtain ⟨hh, g, d, t, os⟩ := s
  unfold getAttr getAttrBy
  refine wpAny_bind (wpAny_mkText (wpAny_holding (wpAny_bind (Looks.here (s := ⟨hh, g, d, t + 1, os⟩) (b_type (s := ⟨hh, g, d, t + 1, os⟩) hb) (wpAny_bind (Looks.here (s := ⟨hh, g, d, t + 1, os⟩) (looks_findIn (h := hh) X (fk_ga _)) ?_))))))
  show wpAny _ _ (getAttrByItsOwn (.ref b) (.str "default_factory" t) (.ref 58) (.builtin "collections.defaultdict.__getattribute__") true false) _ _ _
  unfold getAttrByItsOwn hookBefore callGetattribute boundAndCalled
  refine wpAny_bind (m := typeLookup (.ref 58) "__getattr__") ?_
  refine Looks.here (s := ⟨hh, g, d, t + 1, os⟩) (looks_findIn (h := hh) X (fk_gattr _)) ?_
  refine wpAny_bind (wpAny_attempt (wpAny_holding ?_))
  show wpAny _ _ (bindSpecial (.builtin "collections.defaultdict.__getattribute__") (.ref b) >>= _) _ _ _
  refine wpAny_bind (wpAny_of_eq (bs_ga _) ?_)
  refine wpAny_mono (Q := fun v s' => ∃ h' tk, v = .ref Fa ∧ s' = ⟨h', g, d, tk, os⟩ ∧ (∀ a o, hh.get? a = some o → h'.get? a = some o)) (E := fun _ _ => False)
    (ga_df (s := ⟨hh, g, d, t + 1, os⟩) X hb fun h' tk k1 => ⟨h', tk, rfl, rfl, k1⟩) (fun v s' hv => ?_) fun _ _ z => z.elim
  obtain ⟨h', tk, rfl, rfl, k1⟩ := hv
  exact wpAny_pure (h h' tk k1)

theorem b_factory {w : World} {A : Around} {E : Value → Shared → Prop} {s : Shared} {b DD Fa : Addr} {es : Array DictEntry} {ep : Nat} {pl : Sem Bool} {Q : Value × List Value → Shared → Prop}
    (X : (hd.heap_39 w.params).In s.heap) (hb : s.heap.get? b = some (bobj DD (some (.ref Fa)) es ep))
    (h : ∀ h' tk, (∀ a o, s.heap.get? a = some o → h'.get? a = some o) → Q (.ref Fa, []) { s with heap := h', toks := tk }) :
    wpAny (model PySem.Challenge.rw_il0026_01.row.prog w) A (getMethod (.ref b) "default_factory" pl) Q E s := by
  unfold getMethod specialOf
  refine wpAny_bind (wpAny_bind ((b_type hb).here ((looks_findIn X (fk_ga _)).here ?_)))
  dsimp only
  rw [if_neg (by decide +kernel)]
  refine wpAny_bind (wpAny_bind ((b_type hb).here ((looks_findIn X (fk_gattr _)).here ?_)))
  refine wpAny_bind (wpAny_bind ((b_type hb).here ((looks_findIn X (fk_df _)).here ?_)))
  obtain ⟨t, e1, e2⟩ := ty_df
  refine wpAny_bind (wpAny_of_eq e1 ?_)
  rw [if_pos e2]
  exact wpAny_bind (b_getAttr X hb fun h' tk k => wpAny_pure (h h' tk k))

theorem MethodCall_pos {M : Model} {A : Around} {E : Value → Shared → Prop} {s : Shared} {env : Env} {x name : Str} {p1 apos pos : Pos} {Q : Value → Shared → Prop} (hp : apos.endLine = pos.line)
    (h : wpAny M A (eval (.Name x p1) env) (fun ov s₁ => wpAny M A (getMethod ov name (do return (← importBound (.Name x p1) env).getD true)) (fun fx s₂ => wpAny M A (callWith pos fx.1 fx.2 [] []) Q E s₂) E s₁) E s) :
    wpAny M A (eval (.Call (.Attribute (.Name x p1) name apos) [] [] pos) env) Q E s := by
  rw [arm_eval_Call]
  refine wpAny_bind (wpAny_mono h (fun ov s₁ h₁ => wpAny_bind (wpAny_standAt ?_)) fun _ _ y => y)
  unfold methodCall
  refine wpAny_bind (wpAny_holding (wpAny_mono h₁ (fun fx s₂ h₂ => ?_) fun _ _ y => y))
  exact wpAny_bind (wpAny_of_eq (by unfold methodCallPos; simp [hp]) h₂)
abbrev fzScope : Scope := ⟨.function, [("key", .local), ("self", .free)], false, false, []⟩
abbrev fzArgs (p : Pos) : Arguments := ⟨[], [⟨"key", none, p⟩], none, [], [], none, []⟩
structure Frz (h : Heap) (fl b : Addr) : Prop where
  all : ∃ qual pm c' ctv cs p0 p1 p2 p3 oc, (p2 : Pos).endLine = (p3 : Pos).line ∧ h.get? fl = some (kla_obj "<lambda>" qual (fzArgs p0) (.Call (.Attribute (.Name "self" p1) "default_factory" p2) [] [] p3) fzScope [("self", cs)] pm c' ctv) ∧ h.CodeRec (.ref c') qual ∧ h.get? cs = some oc ∧ oc.data = .cell (some (.ref b))
theorem Frz.keeps {h h' : Heap} {fl b : Addr} (S : Frz h fl b) (k : ∀ b o, h.get? b = some o → h'.get? b = some o) : Frz h' fl b := by
  obtain ⟨qual, pm, cF, ctv, cm, p0, p1, p2, p3, oc, hp, a1, ⟨c, oc', vs, tq, e1, e2, e3, e4⟩, a3, a4⟩ := S.all
  exact ⟨qual, pm, cF, ctv, cm, p0, p1, p2, p3, oc, hp, k _ _ a1, ⟨c, oc', vs, tq, e1, k _ _ e2, e3, e4⟩, k _ _ a3, a4⟩

theorem news_keeps {h₀ h h' : Heap} {L : Addr} {news : List (Addr × Obj)} (N : News h₀ L h news) (k : ∀ b o, h.get? b = some o → h'.get? b = some o) : News h₀ L h' news := fun q hq => ⟨k _ _ (N q hq).1, (N q hq).2⟩

theorem frz_call {w : World} {A₀ : Around} {dep un : Nat} {gd : Option (List Code)} {base h₀ : Heap} {outer : List Env} {env : Env} {L : Addr} {m mg mb : Str → Option Value}
  {fl b DD Fa M : Addr} {key : Value} {es : Array DictEntry} {ep : Nat} {vs : List Value} {n : Nat} {post : List (Addr × Obj)} {s : Shared} {p : Program} {loose : List Str} {mean : ExcName → Option Value} {R : Result → Shared → Prop}
  (B : Below A₀ base outer h₀) (F : Fr h₀ L s.heap m) (N : News h₀ L s.heap ((M, W.listOf vs.toArray n) :: post)) (T : Top p loose mean mg mb h₀)
  (hfr : env.frame = some L) (hke : env.scope.kind = .function)
  (hpost : ∀ p ∈ post, p.1 ≠ M) (hbm : (b, bobj DD (some (.ref Fa)) es ep) ∈ post) (S : Sta h₀ Fa M) (Z : Frz h₀ fl b)
  (hdep : dep ≤ 540) (hvs : vs.length ≤ 60)
  (hok : ∀ l h' tk t, (vs.length + 1) % 5 ≠ 0 → Fr h₀ L h' m → News h₀ L h' ((l, W.listOf #[Value.int vs.length t] 0) :: (M, W.listOf (vs ++ [Value.ref l]).toArray (n + 1)) :: post) → M < l ∧ AllLt l post → R (.ok (.ret (.ref l))) { s with heap := h', toks := tk })
  (herr : ∀ l t g₂ e ta u h' tk, (vs.length + 1) % 5 = 0 → Fr h₀ L g₂ m → RaisedS base g₂ (env :: outer) e (.type "ValueError") ta [.str "no more" u] ((l, W.listOf #[Value.int vs.length t] 0) :: (M, W.listOf (vs ++ [Value.ref l]).toArray (n + 1)) :: post) h' → g₂.UpToSlots h' → M < l ∧ AllLt l post →
    R (.error (.ref e)) { s with heap := h', toks := tk }) : (hd.heap_39 w.params).In h₀ →
  codeAny (model PySem.Challenge.rw_il0026_01.row.prog w) ⟨none, dep, some (env :: outer), gd, un⟩ (.call (.ref fl) ⟨[key], []⟩) R s := by
  intro X₀
  obtain ⟨qual, pm, c', ctv, cs, p0, p1, p2, p3, oc, hp, a1, a2, a3, a4⟩ := Z.all
  refine' lam_code B F X₀ N T rfl hfr hke (F.keep _ _ a1) (a2.keeps F.keep) (by show dep < _; simp only [recursionLimit]; omega) (by rfl) (locs rfl) ?_ rfl rfl rfl (by decide)
  intro g' L' h₁ FG' F' N' B' X' T' l' kg
  have a3' : g'.get? cs = some oc := FG'.keep _ _ a3
  refine MethodCall_pos hp ?_
  refine nameX_Fh rfl (F'.keep _ _ a3') a4 ?_
  refine b_factory (X'.keeps F'.keep) (N'.get (.tail _ hbm)) fun h₂ tk₂ k₂ => ?_
  have F₂ := F'.keeps k₂
  have N₂ := news_keeps N' k₂
  have S₂ := S.keeps FG'.keep
  obtain ⟨_, _, _, _, _, _, _, _, _, hFa, _⟩ := (S₂.keeps F₂.keep).all
  refine callWith_function (PyProof.Rows.evalArgs_none ⟨⟨hFa, rfl⟩, ?_⟩)
  refine wpAny_call (lamF_call (dep := dep + 1) B' F₂ N₂ T' rfl rfl hpost S₂ (by omega) hvs ?_ ?_ X')
  · intro l1 h1 t1 t2 q1 F1 N1 o1
    exact leaveK_ F1 N1 fun kF kN => hok _ _ _ _ q1 kF kN o1
  · intro l1 t1 g1 e1 a1 u1 h1 t2 q1 G1 R1 U1 o1
    refine gleave_onS rfl rfl G1 R1 U1 fun h' R' U' => ?_
    exact herr _ _ _ _ _ _ _ _ q1 FG' R' U' o1
end Mine
end

section
open PySem PySem.W PyProof.Rows PySem.Calls
set_option maxRecDepth 100000
set_option maxHeartbeats 8000000
namespace Mine
abbrev Fz := Option (Int × Tok × Addr)
def ddo : Fz → Nat → Obj
  | none, n => ⟨.type "dict", none, .dict #[] n, #[]⟩
  | some (hh, u, fl), n => ⟨.type "dict", none, .dict #[⟨hh, .str "_frozen" u, .ref fl⟩] n, #[]⟩

theorem cw_bound {M : Model} {A : Around} {E : Value → Shared → Prop} {s : Shared} {env : Env} {pos : Pos} {a b : Addr} {e : Expr} {Q : Value → Shared → Prop}
    (h : wpAny M A (eval e env) (fun v s₁ => s₁.heap.get? a = some (bndObj b) ∧ wpAny M A (call (.ref a) [v]) Q E s₁) E s) (he : starEach [e] env = [(false, eval e env)] := by rfl) :
    wpAny M A (callWith pos (.ref a) [] (backTo pos (starEach [e] env)) []) Q E s := by
  rw [he]
  show wpAny M A (callWith pos (.ref a) [] [(false, eval e env)] []) Q E s
  unfold callWith
  refine wpAny_bind (wpAny_holding (evalArgs_plain (spliced_cons (wpAny_mono h (fun v s₁ h₁ => spliced_nil ?_) fun _ _ y => y))))
  obtain ⟨ha, hc⟩ := h₁
  refine wpAny_bind (wpAny_standAt (wpAny_bind ?_))
  unfold keeperOf
  refine wpAny_bind (wpAny_load ha (wpAny_pure ?_))
  refine wpAny_bind ?_
  show wpAny M A (call (.ref a) [v]) _ _ _
  exact wpAny_mono hc (fun r s₂ hr => wpAny_bind (wpAny_holding (wpAny_point (wpAny_pure hr)))) fun _ _ x => x

theorem fk_58 (P : Params) : ((hd.heap_39 P).lookup 58).isSome = true := by kernel_rfl
theorem not_58 {w : World} {h : Heap} {b : Addr} (X : (hd.heap_39 w.params).In h) (e : h.get? b = none) : b ≠ 58 := by
  obtain ⟨o, ho⟩ := Option.isSome_iff_exists.mp (fk_58 w.params)
  have := X _ _ ho
  rintro rfl
  rw [this] at e; cases e
theorem inst_book {h : Heap} {b DD : Addr} {F : Option Value} {es : Array DictEntry} {ep : Nat} {od : Obj} (hb : h.get? b = some (bobj DD F es ep)) (ho : h.get? DD = some od) : W.InstAt h b (bobj DD F es ep) 58 (some od) := ⟨hb, rfl, rfl, ho⟩
end Mine
section
open Mine
local macro_rules | `(tactic| k_room) => `(tactic| (simp only [depth_deeper, recursionLimit] at *; omega))
namespace Mine
theorem miss_call {w : World} {A₀ : Around} {dep un : Nat} {gd : Option (List Code)} {base h₀ : Heap} {outer : List Env} {env : Env} {L : Addr} {m mg mb : Str → Option Value}
  {Fa M b DD : Addr} {fz : Fz} {es : Array DictEntry} {ep dn : Nat} {kvs : List (Key × Value)} {k : Key} {key : Value} {vs : List Value} {n : Nat} {post : List (Addr × Obj)} {s : Shared} {p : Program} {loose : List Str} {mean : ExcName → Option Value} {R : Result → Shared → Prop}
  (B : Below A₀ base outer h₀) (F : Fr h₀ L s.heap m) (N : News h₀ L s.heap ((M, W.listOf vs.toArray n) :: (b, bobj DD (some (.ref Fa)) es ep) :: post)) (T : Top p loose mean mg mb h₀)
  (hfr : env.frame = some L) (hke : env.scope.kind = .function)
  (hdm : (DD, ddo fz dn) ∈ post) (hpM : ∀ p ∈ post, p.1 ≠ M) (hpb : ∀ p ∈ post, p.1 ≠ b) (hbM : b ≠ M) (hbs : (b == sysModules) = false) (S : Sta h₀ Fa M) (Z : ∀ hh u fl, fz = some (hh, u, fl) → Frz h₀ fl b)
  (I : Bk PySem.Challenge.rw_il0026_01.row.prog w es kvs) (hkey : isKey k key = true) (hv : valueAt kvs k = none) (hsz : kvs.length ≤ 1000)
  (hdep : dep ≤ 530) (hvs : vs.length ≤ 60)
  (hok : ∀ l h' tk t es' ep', (vs.length + 1) % 5 ≠ 0 → Fr h₀ L h' m → News h₀ L h' ((l, W.listOf #[Value.int vs.length t] 0) :: (M, W.listOf (vs ++ [Value.ref l]).toArray (n + 1)) :: (b, bobj DD (some (.ref Fa)) es' ep') :: post) →
    Bk PySem.Challenge.rw_il0026_01.row.prog w es' (if fz.isSome then kvs else kvs ++ [(k, .ref l)]) → (M < l ∧ b < l ∧ AllLt l post) → R (.ok (.ret (.ref l))) { s with heap := h', toks := tk })
  (herr : ∀ l t g₂ e ta u h' tk, (vs.length + 1) % 5 = 0 → Fr h₀ L g₂ m → RaisedS base g₂ (env :: outer) e (.type "ValueError") ta [.str "no more" u] ((l, W.listOf #[Value.int vs.length t] 0) :: (M, W.listOf (vs ++ [Value.ref l]).toArray (n + 1)) :: (b, bobj DD (some (.ref Fa)) es ep) :: post) h' → g₂.UpToSlots h' →
    (M < l ∧ b < l ∧ AllLt l post) → R (.error (.ref e)) { s with heap := h', toks := tk }) : (hd.heap_39 w.params).In h₀ →
  codeAny (model PySem.Challenge.rw_il0026_01.row.prog w) ⟨none, dep, some (env :: outer), gd, un⟩ (.call (.ref 48) ⟨[.ref b, key], []⟩) R s := by
  w_top off
  k_fill
  intro X₀
  have hb0 : h₀.get? b = none := (N _ (.tail _ (.head _))).2.2
  have hbL : b ≠ L := (N _ (.tail _ (.head _))).2.1
  refine' ks_code_super ?k1 ?k2 ?k3 ?k4 ?k5 ?kA ?kF ?kK ?k6 ?k7 ?k8 ?k9 ?kB ?_ ?c1 ?c2 ?c3 ?c4
  case kA => exact rfl
  case kF => exact hfr
  case kK => exact hke
  case k1 => exact B
  case k2 => exact F
  case k3 => exact X₀
  case k4 => exact N
  case k5 => exact T
  case k6 => k_is
  case k7 => k_is
  case k8 => show dep < _; k_room
  case k9 => exact BindsTo.of_eq rfl
  case kB => exact locs rfl
  case c1 => decide
  case c2 => exact rfl
  case c3 => exact rfl
  case c4 => exact rfl
  intro g' L' h₁ FG' F' N' B' X' T' l1
  refine ks_wpAt_execs_cons (ks_wpAt_Return_some (at_Call (at_Call (_root_.PySem.wpAt_of_wpAny ?_))))
  refine nameX_B F' X' (topRead_of T') (by k_is) boot_getattr (by decide) ?_
  refine at_callWith (at_args_cons (_root_.PySem.wpAt_of_wpAny (nameX_L F' rfl ?_)))
  refine at_args_cons (_root_.PySem.wpAt_of_wpAny (Calls.Constant_str ?_))
  refine at_args_cons (at_Attribute ?_)
  refine ks_node F' X' N' T' (by k_is) (by rfl) (by rfl) (inst_book (N'.get (.tail _ (.head _))) (N'.get (.tail _ (.tail _ hdm)))) (by k_is) (by rfl) (by first | rfl | decide +kernel) (by k_is) (by k_is) (by k_is) (by k_is) (by decide) (by rfl) (by rfl) (by rfl) (by rfl) (by decide +kernel) (by first | boot_by_name | rfl | kernel_rfl) ?_
  intro so h₂ F₂ N₂ o₂
  have hb₂ := N₂.get (.tail _ (.tail _ (.head _)))
  refine su_attr (X'.keeps F₂.keep) hb₂ (N₂.get (.head _)) (not_58 X₀ hb0) ?_
  intro a h₃ tk₃ k₃ e₃
  refine _root_.PySem.wpAt_of_wpAny (PyProof.Rows.args_nil ?_)
  have F₃ := F₂.keeps k₃
  have N₃ : News g' L' h₃ ((M, W.listOf vs.toArray n) :: (b, bobj DD (some (.ref Fa)) es ep) :: post) := fun q hq => news_keeps N₂ k₃ q (.tail _ hq)
  have hD₃ : h₃.get? DD = some (ddo fz dn) := N₃.get (.tail _ (.tail _ hdm))
  have hpM' : ∀ p ∈ (b, bobj DD (some (.ref Fa)) es ep) :: post, p.1 ≠ M := fun p hp => by
    rcases List.mem_cons.mp hp with rfl | hp
    · exact hbM
    · exact hpM p hp
  have S' := S.keeps FG'.keep
  cases fz with
  | none =>
    refine ga_0 (X'.keeps F₃.keep) (k₃ _ _ hb₂) hD₃ fun h₄ tk₄ k₄ => ?_
    have F₄ := F₃.keeps k₄
    have N₄ := news_keeps N₃ k₄
    have e₄ := k₄ _ _ e₃
    obtain ⟨_, _, _, _, _, _, _, _, _, hFa, _⟩ := (S'.keeps F₄.keep).all
    refine _root_.PySem.wpAt_of_wpAny (cw_bound (nameX_L F₄ rfl ⟨e₄, ?_⟩))
    refine wpAny_call (c_bound (X'.keeps F₄.keep) (N₄.get (.tail _ (.head _))) e₄ hFa rfl (lamF_call (dep := dep + 1) B' F₄ N₄ T' rfl rfl hpM' S' (by omega) hvs ?_ ?_ X'))
    · intro l h5 t5 u5 q5 F5 N5 o5
      have m5 := N5 _ (.tail _ (.tail _ (.head _)))
      refine t_setdefault (X'.keeps F5.keep) m5.1 I hkey hsz hbs hv fun h6 es' ep' g6 I6 s6 => ?_
      have F6 := F5.change s6 m5.2.1 m5.2.2
      have N6 := News.setAt (own := [(l, _), (M, _)]) N5 (fun p hp => by
        rcases List.mem_cons.mp hp with rfl | hp
        · exact Nat.ne_of_gt o5.2.1
        · rcases List.mem_cons.mp hp with rfl | hp
          · exact hbM.symm
          · cases hp) hpb s6 g6
      exact leaveK_ F6 N6 fun kF kN => hok _ _ _ _ _ _ q5 kF kN I6 ⟨o5.1, o5.2.1, o5.2.2⟩
    · intro l t5 g5 e5 a5 u5 h5 tk5 q5 G5 R5 U5 o5
      refine gleave_onS rfl rfl G5 R5 U5 fun h' R' U' => ?_
      exact herr _ _ _ _ _ _ _ _ q5 FG' R' U' ⟨o5.1, o5.2.1, o5.2.2⟩
  | some z =>
    obtain ⟨hh, u, fl⟩ := z
    refine ga_1 (X'.keeps F₃.keep) (k₃ _ _ hb₂) hD₃ fun h₄ tk₄ k₄ => ?_
    have F₄ := F₃.keeps k₄
    have N₄ := news_keeps N₃ k₄
    have Z' := (Z hh u fl rfl).keeps FG'.keep
    obtain ⟨_, _, _, _, _, _, _, _, _, _, _, hfl, _⟩ := (Z'.keeps F₄.keep).all
    refine _root_.PySem.wpAt_of_wpAny (callWith_def rfl (PyProof.Rows.args_cons (nameX_L F₄ rfl (PyProof.Rows.args_nil ⟨hfl, ?_⟩))))
    refine wpAny_call (frz_call (dep := dep + 1) B' F₄ N₄ T' rfl rfl hpM' (.head _) S' Z' (by omega) hvs ?_ ?_ X')
    · intro l h5 t5 u5 q5 F5 N5 o5
      exact leaveK_ F5 N5 fun kF kN => hok _ _ _ _ _ _ q5 kF kN I ⟨o5.1, o5.2.1, o5.2.2⟩
    · intro l t5 g5 e5 a5 u5 h5 tk5 q5 G5 R5 U5 o5
      refine gleave_onS rfl rfl G5 R5 U5 fun h' R' U' => ?_
      exact herr _ _ _ _ _ _ _ _ q5 FG' R' U' ⟨o5.1, o5.2.1, o5.2.2⟩
end Mine
end
end

section
open PySem PySem.W PyProof.Rows PySem.Calls
set_option maxRecDepth 100000
set_option maxHeartbeats 8000000
section
open Mine
local macro_rules | `(tactic| k_room) => `(tactic| (simp only [depth_deeper, recursionLimit] at *; omega))
local macro_rules | `(tactic| k_all) => `(tactic| assumption)
local macro_rules | `(tactic| walk_at "subscriptTail") => `(tactic| (k_here; k_dflt (show Hold (wpAny _ _ (subscriptTail _ _ _ _) _ _ _))))
namespace Mine
theorem looked_call {w : World} {A₀ : Around} {dep un : Nat} {gd : Option (List Code)} {base h₀ : Heap} {outer : List Env} {env : Env} {L : Addr} {m mg mb : Str → Option Value}
  {Fa M b DD : Addr} {fz : Fz} {es : Array DictEntry} {ep dn : Nat} {kvs : List (Key × Value)} {k : Key} {key : Value} {vs : List Value} {n : Nat} {post : List (Addr × Obj)} {s : Shared} {p : Program} {loose : List Str} {mean : ExcName → Option Value} {R : Result → Shared → Prop}
  (B : Below A₀ base outer h₀) (F : Fr h₀ L s.heap m) (N : News h₀ L s.heap ((M, W.listOf vs.toArray n) :: (b, bobj DD (some (.ref Fa)) es ep) :: post)) (T : Top p loose mean mg mb h₀)
  (D : KtsDicts (outer.filterMap (·.frame)) h₀) (TB : Top p loose mean mg mb base)
  (hfr : env.frame = some L) (hke : env.scope.kind = .function)
  (hdm : (DD, ddo fz dn) ∈ post) (hpM : ∀ p ∈ post, p.1 ≠ M) (hpb : ∀ p ∈ post, p.1 ≠ b) (hbM : b ≠ M) (hbs : (b == sysModules) = false) (S : Sta h₀ Fa M) (Z : ∀ hh u fl, fz = some (hh, u, fl) → Frz h₀ fl b)
  (I : Bk PySem.Challenge.rw_il0026_01.row.prog w es kvs) (hkey : isKey k key = true) (hsz : kvs.length ≤ 1000)
  (hdep : dep ≤ 520) (hun : un + 100 < cLine) (hvs : vs.length ≤ 60)
  (hfound : ∀ v h' tk h₀', valueAt kvs k = some v → KtsTurn (outer.filterMap (·.frame)) h₀ h₀' → Fr h₀' L h' m → News h₀' L h' ((M, W.listOf vs.toArray n) :: (b, bobj DD (some (.ref Fa)) es ep) :: post) → Below A₀ base outer h₀' → KtsDicts (outer.filterMap (·.frame)) h₀' →
    R (.ok (.ret v)) { s with heap := h', toks := tk })
  (hnew : ∀ l h' tk t es' ep' h₀', valueAt kvs k = none → (vs.length + 1) % 5 ≠ 0 → KtsTurn (outer.filterMap (·.frame)) h₀ h₀' → Fr h₀' L h' m → News h₀' L h' ((l, W.listOf #[Value.int vs.length t] 0) :: (M, W.listOf (vs ++ [Value.ref l]).toArray (n + 1)) :: (b, bobj DD (some (.ref Fa)) es' ep') :: post) →
    Below A₀ base outer h₀' → KtsDicts (outer.filterMap (·.frame)) h₀' → Bk PySem.Challenge.rw_il0026_01.row.prog w es' (if fz.isSome then kvs else kvs ++ [(k, .ref l)]) → (M < l ∧ b < l ∧ AllLt l post) → R (.ok (.ret (.ref l))) { s with heap := h', toks := tk })
  (href : ∀ l h' tk t u h₀', valueAt kvs k = none → (vs.length + 1) % 5 = 0 → KtsTurn (outer.filterMap (·.frame)) h₀ h₀' → Fr h₀' L h' m → News h₀' L h' ((l, W.listOf #[Value.int vs.length t] 0) :: (M, W.listOf (vs ++ [Value.ref l]).toArray (n + 1)) :: (b, bobj DD (some (.ref Fa)) es ep) :: post) →
    Below A₀ base outer h₀' → KtsDicts (outer.filterMap (·.frame)) h₀' → (M < l ∧ b < l ∧ AllLt l post) → R (.ok (.ret (.str "refused: no more" u))) { s with heap := h', toks := tk }) : (hd.heap_39 w.params).In h₀ → (hd.heap_39 w.params).In base → 
  codeAny (model PySem.Challenge.rw_il0026_01.row.prog w) ⟨none, dep, some (env :: outer), gd, un⟩ (.call (.ref 76) ⟨[.ref b, key], []⟩) R s := by
  w_top off
  k_fill
  intro X₀ XB
  refine' gdefG0 ?k1 ?k2 ?k3 ?k4 ?kD ?k5 ?kA ?kF ?kK ?k6 ?k7 ?k8 ?k9 ?kB ?_ ?c1 ?c2 ?c3 ?c4
  case kA => exact rfl
  case kF => exact hfr
  case kK => exact hke
  case k1 => exact B
  case k2 => exact F
  case k3 => exact X₀
  case k4 => exact N
  case kD => exact D
  case k5 => exact T
  case k6 => k_is
  case k7 => k_is
  case k8 => show dep < _; k_room
  case k9 => first | exact binds_K (by k_in) rfl (by k_is) rfl rfl rfl | exact BindsTo.of_eq rfl
  case kB => exact locs rfl
  case c1 => exact rfl
  case c2 => exact rfl
  case c3 => exact rfl
  case c4 => decide
  intro g' L' h₁ FG' F' N' B' X' T' D' l1 kg
  try dsimp only
  k_steps
  have hb' := N'.get (.tail _ (.head _))
  refine b_sub (X'.keeps F'.keep) hb' ?_ (by with_unfolding_all rfl)
  cases hv : valueAt kvs k with
  | some v =>
    refine c_getitem (X'.keeps F'.keep) hb' I hkey hv ?_
    exact ⟨g', L', _, _, KtsTurn.refl, F', N', fun h₀' t' kF kN kB kD => hfound _ _ _ _ hv t' kF kN kB kD⟩
  | none =>
    refine c_getitem_miss (X'.keeps F'.keep) hb' I hkey hv hbs (miss_call (dep := dep + 1) B' F' N' T' rfl rfl hdm hpM hpb hbM hbs (S.keeps FG'.keep) (fun hh u fl e => (Z hh u fl e).keeps FG'.keep) I hkey hv hsz (by omega) hvs ?_ ?_ X')
    · intro l h5 t5 u5 es' ep' q5 F5 N5 I5 o5
      exact ⟨g', L', _, _, KtsTurn.refl, F5, N5, fun h₀' t' kF kN kB kD => hnew _ _ _ _ _ _ _ hv q5 t' kF kN kB kD I5 o5⟩
    · intro l t5 g5 e5 a5 u5 h5 tk5 q5 G5 R5 U5 o5
      dsimp only
      k_steps
      rename KtsTurn _ _ _ => kT
      rename Fr _ _ _ _ => kF0
      rename News _ _ _ _ => kN0
      refine ⟨_, _, _, _, kT, kF0, kN0, fun h₀' t' kF kN kB kD => ?_⟩
      have e : (Str.ofString "refused: " ++ Str.ofString "no more") = Str.ofString "refused: no more" := by decide
      rw [e]
      exact href _ _ _ _ _ _ hv q5 t' kF kN kB kD o5
end Mine
end
end

section
open PySem PySem.W PyProof.Rows PySem.Calls Builtin Builtin.ObjectAttr
set_option maxRecDepth 100000
set_option maxHeartbeats 8000000
namespace Mine
theorem fk_mro (P : Params) : (clsIn (hd.heap_39 P) 58).map (fun c => (c.mro, c.hasDict)) = some ([.ref 58, .type "collections.defaultdict", .type "dict", .type "object"], true) := by kernel_rfl
end Mine
namespace Mine
theorem fk_sa (P : Params) : findIn (hd.heap_39 P) (.ref 58) "__setattr__" = some (some (.builtin "object.__setattr__")) := by kernel_rfl
theorem fk_fz (P : Params) : findIn (hd.heap_39 P) (.ref 58) "_frozen" = some none := by kernel_rfl
theorem fk_obj (P : Params) : subIn (hd.heap_39 P) (.ref 58) (.type "object") = some true := by kernel_rfl
theorem ref_loop (self : Value) : refuseLoop self "__setattr__" [.ref 58, .type "collections.defaultdict", .type "dict", .type "object"] = pure () := by rw [refuseLoop_ref]; kernel_rfl

theorem ddo_look {fz : Fz} {n : Nat} : (lookIn "_frozen" (ddo fz n)).isSome = true := by
  rcases fz with _ | ⟨hh, u, fl⟩ <;> rfl
section
variable {prog : Program} {w : World} {A : Around} {E : Value → Shared → Prop} {s : Shared} {b DD : Addr} {F : Option Value} {es : Array DictEntry} {ep : Nat}
theorem b_setattr {fz : Fz} {n : Nat} {fl : Addr} {Q : Unit → Shared → Prop} (X : (hd.heap_39 w.params).In s.heap) (hb : s.heap.get? b = some (bobj DD F es ep)) (hD : s.heap.get? DD = some (ddo fz n))
    (h : ∀ h' hh u n', h'.get? DD = some (ddo (some (hh, u, fl)) n') → Heap.SameBut DD s.heap h' → Q () { s with heap := h', toks := s.toks + 2 }) :
    wpAny (model prog w) A (setAttr (.ref b) "_frozen" (.ref fl)) Q E s := by
  have SF := PySem.F.store_object
  unfold setAttr
  refine wpAny_bind (wpAny_mkText ?_)
  refine wpAny_bind (b_special (s := { s with toks := s.toks + 1 }) X hb (fk_sa _) SF.slot.bind ?_)
  refine wpAny_call (codeAny_call_builtin SF.slot.plain SF.entry (@check_slot (model prog w) _ _ { s with toks := s.toks + 1 } "object.__setattr__" "object" "__setattr__" (.ref b) [.str "_frozen" s.toks, .ref fl] [] _ SF.kind SF.split (b_inst (s := { s with toks := s.toks + 1 }) X hb (fk_obj _)) (SF.args (.ref b) (.str "_frozen" s.toks) (.ref fl)) ?_))
  obtain ⟨cd, hc, hm⟩ := Option.map_eq_some_iff.mp (fk_mro w.params)
  have hm1 : cd.mro = [.ref 58, .type "collections.defaultdict", .type "dict", .type "object"] := congrArg Prod.fst hm
  have hm2 : cd.hasDict = true := congrArg Prod.snd hm
  obtain ⟨hp, g, d, t, os⟩ := s
  have LT : Looks (model prog w) hp (typeOf (.ref b)) (.ref 58) := b_type (s := ⟨hp, g, d, t, os⟩) hb
  have LM : Looks (model prog w) hp (mroOf (.ref 58)) cd.mro := (looks_clsIn X hc).andThen .now
  rw [osa_eq, refuse_eq]
  refine wpAny_bind (wpAny_bind (LT.at (wpAny_bind (LM.at ?_))))
  rw [hm1, ref_loop]
  refine wpAny_pure (wpAny_bind (LT.at (wpAny_bind ((looks_findIn (h := hp) X (fk_fz _)).at (wpAny_bind (Looks.now.at (h := hp) ?_))))))
  refine wpAny_bind (wpAny_pure (wpAny_bind (wpAny_bind (wpAny_loadPart hb (wpAny_bind ((looks_clsIn (h := hp) X hc).at ?_))))))
  rw [hm2]
  refine wpAny_pure (a := some DD) (wpAny_bind (wpAny_pure (wpAny_bind ?_)))
  unfold nsSet
  refine wpAny_bind (wpAny_bind (wpAny_askSetting (wpAny_pure (wpAny_bind (wpAny_mkText (wpAny_bind (wpAny_loadPart hD ?_)))))))
  have pn : ∀ H t', ∃ hh u n', Obj.putName "_frozen" H (.str "_frozen" t') (.ref fl) (ddo fz n) = ddo (some (hh, u, fl)) n' := fun H t' => by
    rcases fz with _ | ⟨hh, u, fl'⟩
    · exact ⟨_, _, _, rfl⟩
    · exact ⟨_, _, _, by simp [ddo, Obj.putName]; rfl⟩
  rcases fz with _ | ⟨hh, u, fl'⟩
  all_goals (
    dsimp only [ddo]
    rw [aRefKeyMayBeTheName_at, if_neg (by simp [Value.isStr])]
    obtain ⟨hh', u', n', e⟩ := pn (if (Str.ofString "_frozen").cps.isEmpty = true then 0 else reduceHash ((model prog w).w.params.strHash (Str.ofString "_frozen").cps)) (t + 1)
    have D' := Heap.get?_update_self (Obj.putName "_frozen" (if (Str.ofString "_frozen").cps.isEmpty = true then 0 else reduceHash ((model prog w).w.params.strHash (Str.ofString "_frozen").cps)) (.str "_frozen" (t + 1)) (.ref fl)) hD (by rw [e]; rfl)
    rw [e] at D'
    refine wpAny_updatePart hD ?_
    refine wpAny_bind (wpAny_lookBehind D' (pastItsLine_dict (by rw [sizeLine_eq]; exact Nat.le_of_ble_eq_true rfl)) ?_)
    exact wpAny_pure (wpAny_pure (h _ hh' u' n' D' (Heap.SameBut.update ..))))
end
end Mine
end

section
open PySem PySem.W PyProof.Rows PySem.Calls
set_option maxRecDepth 100000
set_option maxHeartbeats 8000000
namespace Mine
theorem all_cons {a d : Addr} {o : Obj} {r : List (Addr × Obj)} (h : a ≠ d) (hr : ∀ p ∈ r, p.1 ≠ d) : ∀ p ∈ (a, o) :: r, p.1 ≠ d := fun p hp => by
  rcases List.mem_cons.mp hp with rfl | hp
  · exact h
  · exact hr p hp
end Mine
section
open Mine
local macro_rules | `(tactic| k_room) => `(tactic| (simp only [depth_deeper, recursionLimit] at *; omega))
local macro_rules | `(tactic| k_all) => `(tactic| first | assumption | exact (fun _ hp => nomatch hp) | (refine all_cons ?a ?b; (case a => first | assumption | k_ne | omega); (case b => k_all)))
namespace Mine
theorem put_call {w : World} {A₀ : Around} {dep un : Nat} {gd : Option (List Code)} {base h₀ : Heap} {outer : List Env} {env : Env} {L : Addr} {m mg mb : Str → Option Value}
  {Fa b DD : Addr} {es : Array DictEntry} {ep : Nat} {kvs : List (Key × Value)} {k : Key} {key thing : Value} {post : List (Addr × Obj)} {s : Shared} {p : Program} {loose : List Str} {mean : ExcName → Option Value} {R : Result → Shared → Prop}
  (B : Below A₀ base outer h₀) (F : Fr h₀ L s.heap m) (N : News h₀ L s.heap ((b, bobj DD (some (.ref Fa)) es ep) :: post)) (T : Top p loose mean mg mb h₀)
  (hfr : env.frame = some L) (hke : env.scope.kind = .function) (hpb : ∀ p ∈ post, p.1 ≠ b)
  (I : Bk PySem.Challenge.rw_il0026_01.row.prog w es kvs) (hkey : isKey k key = true) (hsz : kvs.length ≤ 1000)
  (hdep : dep ≤ 520)
  (hok : ∀ h' tk es' ep', Fr h₀ L h' m → News h₀ L h' ((b, bobj DD (some (.ref Fa)) es' ep') :: post) → Bk PySem.Challenge.rw_il0026_01.row.prog w es' (stored kvs k thing) → R (.ok (.ret .none)) { s with heap := h', toks := tk }) : (hd.heap_39 w.params).In h₀ →
  codeAny (model PySem.Challenge.rw_il0026_01.row.prog w) ⟨none, dep, some (env :: outer), gd, un⟩ (.call (.ref 83) ⟨[.ref b, key, thing], []⟩) R s := by
  w_top off
  k_fill
  intro X₀
  refine' gdefX0 ?k1 ?k2 ?k3 ?k4 ?k5 ?kA ?kF ?kK ?k6 ?k7 ?k8 ?k9 ?kB ?_ ?c1 ?c2 ?c3 ?c4
  case kA => exact rfl
  case kF => exact hfr
  case kK => exact hke
  case k1 => exact B
  case k2 => exact F
  case k3 => exact X₀
  case k4 => exact N
  case k5 => exact T
  case k6 => k_is
  case k7 => k_is
  case k8 => show dep < _; k_room
  case k9 => first | exact binds_K (by k_in) rfl (by k_is) rfl rfl rfl | exact BindsTo.of_eq rfl
  case kB => exact locs rfl
  case c1 => exact rfl
  case c2 => exact rfl
  case c3 => exact rfl
  case c4 => decide
  intro g' L' h₁ FG' F' N' B' X' T' l1 kg
  try dsimp only
  k_steps
  have m5 := N' _ (.head _)
  refine b_setItem (X'.keeps F'.keep) m5.1 I hkey hsz fun h6 es' ep' g6 I6 s6 => ?_
  have F6 := F'.change s6 m5.2.1 m5.2.2
  have N6 := News.setAt (own := []) N' (fun p hp => nomatch hp) hpb s6 g6
  clear F' N' m5
  k_steps
  exact hok _ _ _ _ (by assumption) (by assumption) I6

theorem upd_news {h₀ h h' : Heap} {L d : Addr} {o o' : Obj} {news l : List (Addr × Obj)} (N : News h₀ L h news) (hm : (d, o) ∈ news) (hs : Heap.SameBut d h h') (ho : h'.get? d = some o')
    (hl : ∀ p ∈ l, p = (d, o') ∨ (p ∈ news ∧ p.1 ≠ d)) : News h₀ L h' l := fun p hp => by
  rcases hl p hp with rfl | ⟨h1, h2⟩
  · exact ⟨ho, (N _ hm).2⟩
  · exact ⟨(hs.2 p.1 h2).trans (N p h1).1, (N p h1).2⟩

abbrev fzQual : Str := "FreezableDefaultDict.freeze.<locals>.<lambda>"
def tabOf : Option Addr → Array Value
  | none => #[]
  | some c => #[rawInt 9, rawInt 23, .ref c]
theorem allLt_mem {d : Nat} : ∀ {l : List (Addr × Obj)}, AllLt d l → ∀ p ∈ l, p.1 < d
  | [], _, _, hp => nomatch hp
  | q :: r, h, p, hp => by
    rcases List.mem_cons.mp hp with rfl | hp
    · exact h.1
    · exact allLt_mem h.2 p hp

theorem freeze_call {w : World} {A₀ : Around} {dep un : Nat} {gd : Option (List Code)} {base h₀ : Heap} {outer : List Env} {env : Env} {L : Addr} {m mg mb : Str → Option Value}
  {Fa b DD : Addr} {fz : Fz} {tb : Option Addr} {es : Array DictEntry} {ep dn : Nat} {post : List (Addr × Obj)} {s : Shared} {p : Program} {loose : List Str} {mean : ExcName → Option Value} {R : Result → Shared → Prop}
  (B : Below A₀ base outer h₀) (F : Fr h₀ L s.heap m) (N : News h₀ L s.heap ((50, tabObj (tabOf tb)) :: (DD, ddo fz dn) :: (b, bobj DD (some (.ref Fa)) es ep) :: post)) (T : Top p loose mean mg mb h₀) (C5 : CodeHd base 54 50)
  (hfr : env.frame = some L) (hke : env.scope.kind = .function) (hpb : ∀ p ∈ post, p.1 ≠ b) (hpD : ∀ p ∈ post, p.1 ≠ DD) (hp5 : ∀ p ∈ post, p.1 ≠ 50) (hD5 : DD ≠ 50) (hb5 : b ≠ 50) (hbD : b ≠ DD)
  (htb : ∀ c, tb = some c → h₀.CodeRec (.ref c) fzQual)
  (hdep : dep ≤ 520)
  (hok : ∀ h' tk c fl hh u dn' more, Fr h₀ L h' m → News h₀ L h' ((50, tabObj (tabOf (some c))) :: (DD, ddo (some (hh, u, fl)) dn') :: (b, bobj DD (some (.ref Fa)) es ep) :: (more ++ post)) → (∀ p ∈ more, b < p.1 ∧ DD < p.1 ∧ 50 < p.1 ∧ ∀ q ∈ post, q.1 < p.1) →
    (∀ h'' : Heap, (∀ c', tb = some c' → h''.CodeRec (.ref c') fzQual) → (∀ p ∈ more, h''.get? p.1 = some p.2) → Frz h'' fl b ∧ h''.CodeRec (.ref c) fzQual) → R (.ok (.ret .none)) { s with heap := h', toks := tk }) : (hd.heap_39 w.params).In h₀ →
  codeAny (model PySem.Challenge.rw_il0026_01.row.prog w) ⟨none, dep, some (env :: outer), gd, un⟩ (.call (.ref 55) ⟨[.ref b], []⟩) R s := by
  w_top off
  k_fill
  intro X₀
  refine' code_defC ?k1 ?k2 ?k3 ?k4 ?k5 ?kA ?kF ?kK ?k6 ?k7 ?k8 ?k9 ?kB ?kn ?_ ?c1 ?c2 ?c3
  case kA => exact rfl
  case kF => exact hfr
  case kK => exact hke
  case k1 => exact B
  case k2 => exact F
  case k3 => exact X₀
  case k4 => exact N
  case k5 => exact T
  case k6 => k_is
  case k7 => k_is
  case k8 => show dep < _; k_room
  case k9 => first | exact binds_K (by k_in) rfl (by k_is) rfl rfl rfl | exact BindsTo.of_eq rfl
  case kB => exact rfl
  case kn => decide
  case c1 => exact rfl
  case c2 => exact rfl
  case c3 => exact rfl
  intro g' L' h₁ tk cells FG' F' N' Y' B' X' T' l1
  k_lt l1
  have hY := CellsAre.one Y'
  obtain ⟨oS, hE', dS⟩ := hY
  subst hE'
  clear Y'
  (try simp only [List.cons_append, List.nil_append] at N')
  (try dsimp only)
  k_steps
  refine' kla_eval rfl ?_
  obtain ⟨l50, lD, lb, lp⟩ := l1
  have lp' := allLt_mem lp
  cases tb with
  | none =>
    refine' kla_nest F' N' T' ?C rfl (UpdF.tail (by k_ne) (UpdF.head (List.forall_mem_cons.mpr ⟨hD5, List.forall_mem_cons.mpr ⟨hb5, hp5⟩⟩))) ?t ?n ?cl ?_
    case C => kn_code
    case t => kn_triples
    case n => kn_among
    case cl => exact rfl
    intro f' c' oc' vs' t' ct' h' tk' F'' N'' d1' d2' q1 q2
    have cb : b < c' := q1 _ (.tail _ (.tail _ (.tail _ (.head _))))
    have cD : DD < c' := q1 _ (.tail _ (.tail _ (.head _)))
    have c50 : 50 < c' := q1 (50, _) (.tail _ (.head _))
    have cp : ∀ q ∈ post, q.1 < c' := fun q hq => q1 q (.tail _ (.tail _ (.tail _ (.tail _ hq))))
    k_steps
    refine b_setattr (X'.keeps F''.keep) (N''.get (.tail _ (.tail _ (.tail _ (.tail _ (.tail _ (.head _))))))) (N''.get (.tail _ (.tail _ (.tail _ (.tail _ (.head _)))))) fun h6 hh u n' g6 s6 => ?_
    have mD := N'' _ (.tail _ (.tail _ (.tail _ (.tail _ (.head _)))))
    have F6 := F''.change s6 mD.2.1 mD.2.2
    have N6 : News g' L' h6 ((50, tabObj (tabOf (some c'))) :: (DD, ddo (some (hh, u, f')) n') :: (b, bobj DD (some (.ref Fa)) es ep) :: ([(f', _), (c', oc'), (L' + 1, oS)] ++ post)) := upd_news N'' (.tail _ (.tail _ (.tail _ (.tail _ (.head _))))) s6 g6 fun p hp => by
      rcases List.mem_cons.mp hp with rfl | hp
      · exact .inr ⟨.tail _ (.tail _ (.tail _ (.head _))), hD5.symm⟩
      rcases List.mem_cons.mp hp with rfl | hp
      · exact .inl rfl
      rcases List.mem_cons.mp hp with rfl | hp
      · exact .inr ⟨.tail _ (.tail _ (.tail _ (.tail _ (.tail _ (.head _))))), hbD⟩
      rcases List.mem_cons.mp hp with rfl | hp
      · exact .inr ⟨.head _, Nat.ne_of_gt (Nat.lt_trans cD q2)⟩
      rcases List.mem_cons.mp hp with rfl | hp
      · exact .inr ⟨.tail _ (.head _), Nat.ne_of_gt cD⟩
      rcases List.mem_cons.mp hp with rfl | hp
      · exact .inr ⟨.tail _ (.tail _ (.head _)), Nat.ne_of_gt (Nat.lt_succ_of_lt lD)⟩
      · exact .inr ⟨.tail _ (.tail _ (.tail _ (.tail _ (.tail _ (.tail _ hp))))), hpD p hp⟩
    clear N'' F'' mD
    k_steps
    refine hok _ _ c' f' _ _ _ _ (by assumption) (by assumption) ?_ ?_
    · intro p hp
      rcases List.mem_cons.mp hp with rfl | hp
      · exact ⟨Nat.lt_trans cb q2, Nat.lt_trans cD q2, Nat.lt_trans c50 q2, fun q hq => Nat.lt_trans (cp q hq) q2⟩
      rcases List.mem_cons.mp hp with rfl | hp
      · exact ⟨cb, cD, c50, cp⟩
      rcases List.mem_cons.mp hp with rfl | hp
      · exact ⟨Nat.lt_succ_of_lt lb, Nat.lt_succ_of_lt lD, Nat.lt_succ_of_lt l50, fun q hq => Nat.lt_succ_of_lt (lp' q hq)⟩
      · cases hp
    · intro h'' _ km
      have e1 := km _ (.head _)
      have e2 : h''.CodeRec (.ref c') fzQual := ⟨c', oc', vs', t', rfl, km _ (.tail _ (.head _)), d1', d2'⟩
      have e3 := km _ (.tail _ (.tail _ (.head _)))
      exact ⟨⟨_, _, _, _, _, _, _, _, _, _, rfl, e1, e2, e3, dS⟩, e2⟩
  | some c =>
    refine' kla_hit F' N' T' ?C rfl ?mem ?t ?n ?cl ?_
    case C => kn_code
    case mem => exact .tail _ (.head _)
    case t => kn_triples
    case n => kn_hit
    case cl => exact rfl
    intro f' ct' h' tk' F'' N'' q1
    have cb : b < f' := q1 _ (.tail _ (.tail _ (.tail _ (.head _))))
    have cD : DD < f' := q1 _ (.tail _ (.tail _ (.head _)))
    have c50 : 50 < f' := q1 (50, _) (.tail _ (.head _))
    have cp : ∀ q ∈ post, q.1 < f' := fun q hq => q1 q (.tail _ (.tail _ (.tail _ (.tail _ hq))))
    k_steps
    refine b_setattr (X'.keeps F''.keep) (N''.get (.tail _ (.tail _ (.tail _ (.tail _ (.head _)))))) (N''.get (.tail _ (.tail _ (.tail _ (.head _))))) fun h6 hh u n' g6 s6 => ?_
    have mD := N'' _ (.tail _ (.tail _ (.tail _ (.head _))))
    have F6 := F''.change s6 mD.2.1 mD.2.2
    have N6 : News g' L' h6 ((50, tabObj (tabOf (some c))) :: (DD, ddo (some (hh, u, f')) n') :: (b, bobj DD (some (.ref Fa)) es ep) :: ([(f', _), (L' + 1, oS)] ++ post)) := upd_news N'' (.tail _ (.tail _ (.tail _ (.head _)))) s6 g6 fun p hp => by
      rcases List.mem_cons.mp hp with rfl | hp
      · exact .inr ⟨.tail _ (.tail _ (.head _)), hD5.symm⟩
      rcases List.mem_cons.mp hp with rfl | hp
      · exact .inl rfl
      rcases List.mem_cons.mp hp with rfl | hp
      · exact .inr ⟨.tail _ (.tail _ (.tail _ (.tail _ (.head _)))), hbD⟩
      rcases List.mem_cons.mp hp with rfl | hp
      · exact .inr ⟨.head _, Nat.ne_of_gt cD⟩
      rcases List.mem_cons.mp hp with rfl | hp
      · exact .inr ⟨.tail _ (.head _), Nat.ne_of_gt (Nat.lt_succ_of_lt lD)⟩
      · exact .inr ⟨.tail _ (.tail _ (.tail _ (.tail _ (.tail _ hp)))), hpD p hp⟩
    clear N'' F'' mD
    k_steps
    refine hok _ _ c f' _ _ _ _ (by assumption) (by assumption) ?_ ?_
    · intro p hp
      rcases List.mem_cons.mp hp with rfl | hp
      · exact ⟨cb, cD, c50, cp⟩
      rcases List.mem_cons.mp hp with rfl | hp
      · exact ⟨Nat.lt_succ_of_lt lb, Nat.lt_succ_of_lt lD, Nat.lt_succ_of_lt l50, fun q hq => Nat.lt_succ_of_lt (lp' q hq)⟩
      · cases hp
    · intro h'' k0 km
      have e1 := km _ (.head _)
      have e2 : h''.CodeRec (.ref c) fzQual := k0 c rfl
      have e3 := km _ (.tail _ (.head _))
      exact ⟨⟨_, _, _, _, _, _, _, _, _, _, rfl, e1, e2, e3, dS⟩, e2⟩
end Mine
end
end

section
open PySem PySem.W PyProof.Rows PySem.Calls PyProof.Rows.LCg
set_option maxRecDepth 100000
set_option maxHeartbeats 8000000
namespace Mine
abbrev Exp := PySem.Expr
section
variable {prog : Program} {w : World} {A : Around} {E : Value → Shared → Prop} {s : Shared} {env : Env}
theorem asg_two {a b : Str} {pa pb tp : Pos} {kk : Nat} {x y : Value} {m : Str → Option Value} {v : Value} {Q : Unit → Shared → Prop}
    (hu : ∀ Q' : List Value → Shared → Prop, (∀ h', Heap.ExtBut s.heap.objs.size s.heap h' → Q' [x, y] { s with heap := h' }) → wpAny (model prog w) A (unpackItems v 2 none) Q' E s)
    (ha : env.kindOf a = some .local) (hb : env.kindOf b = some .local) (hp : (env.scope.kind == .class || (env.scope.kind == .module && env.locals != env.globals)) = false) (hn : s.heap.Ns env.locals m)
    (h : ∀ (h' : Heap) (tk : Nat), h'.Ns env.locals (fun z => if z = b then some y else if z = a then some x else m z) → (∀ c o, c ≠ env.locals → s.heap.get? c = some o → h'.get? c = some o) → Q () { s with heap := h', toks := tk }) :
    wpAny (model prog w) A (assign (.Tuple [.Name a pa, .Name b pb] kk tp) env v) Q E s := by
  rw [arm_assign_Tuple]
  refine wpAny_bind (wpAny_standAt ?_)
  unfold unpack
  refine wpAny_bind (wpAny_holding (hu _ fun h₁ he₁ => ?_))
  have hL : env.locals ≠ s.heap.objs.size := Nat.ne_of_lt hn.lt
  have hn₁ : h₁.Ns env.locals m := hn.at' fun o e => he₁ _ o hL e
  have up₁ : ∀ c o, s.heap.get? c = some o → h₁.get? c = some o := fun c o e => he₁ c o (Nat.ne_of_lt (Heap.lt_size e)) e
  show wpAny _ _ (assignInOrder [assign (.Name a pa) env, assign (.Name b pb) env] [x, y]) _ _ _
  refine assignInOrder_cons ?_
  refine wpAny_assign_Name (wpAny_storeName_local ha hn₁ (fun h₂ hn₂ hs₂ => ?_) hp)
  refine assignInOrder_cons ?_
  refine wpAny_assign_Name (wpAny_storeName_local hb hn₂ (fun h₃ hn₃ hs₃ => ?_) hp)
  refine assignInOrder_nil ?_
  exact h h₃ _ hn₃ fun c o hc e => hs₃.extBut c o hc (hs₂.extBut c o hc (up₁ c o e))
end

def Ups (x : Heap) (I : Addr) (h : Heap) : Prop := ∀ c o, c ≠ I → x.get? c = some o → h.get? c = some o
def Kps (x h : Heap) : Prop := ∀ c o, x.get? c = some o → h.get? c = some o

section
variable {prog : Program} {w : World} {A : Around} {E : Value → Shared → Prop} {s : Shared} {env : Env}
theorem comp_t_block {elt iter target : Exp} {c : Exp} {scope : Scope} {cl : List (Str × Addr)} {pos : Pos} {s₂ : Shared} {I : Addr} {fp : List Addr} {n : Nat} {P Md : Nat → Value → Heap → Prop} {St : Nat → Heap → Prop} {Bd : Nat → (Str → Option Value) → Prop}
    {J : Nat → List Value → List (Addr × Obj) → Prop} {RR : Value → Addr → Result → Shared → Prop}
    (W : KTurns prog w A target I fp [I] n P Md St) (hsz : n ≤ sizeLine) (iter_there : ∀ {i h}, St i h → h.get? I ≠ none) (hfp : ∀ b ∈ fp, b < s₂.heap.objs.size) (hst : St 0 s₂.heap)
    (self : ∀ (s : Shared) (Q : Value → Shared → Prop) (E : Value → Shared → Prop), St 0 s.heap → Q (.ref I) s → wpAny (model prog w) A (pyIter (.ref I)) Q E s)
    (hcell : ∀ y ∈ scope.names, y.2 ≠ .cell) (hkind : scope.kind = .function)
    (tgt : ∀ i v h tk C m₀ (Q' : Unit → Shared → Prop) (E' : Value → Shared → Prop), P i v h → h.Ns C m₀ → Ups s₂.heap I h → (∀ h' tk' m', h'.Ns C m' → Bd i m' → (∀ c o, c ≠ C → h.get? c = some o → h'.get? c = some o) → Q' () { s₂ with heap := h', toks := tk' }) →
      wpAny (model prog w) A (assign target (compEnvC scope cl C env) v) Q' E' { s₂ with heap := h, toks := tk })
    (J0 : J 0 [] [])
    (turn : ∀ i h tk C m' ys objs (E' : Value → Shared → Prop), i < n → Bd i m' → J i ys objs → h.Ns C m' → Ups s₂.heap I h → (∀ p ∈ objs, h.get? p.1 = some p.2) →
      wpAny (model prog w) A (isTrue c (compEnvC scope cl C env) (eval c (compEnvC scope cl C env))) (fun okb s₃ => if okb = true then wpAny (model prog w) A (eval elt (compEnvC scope cl C env)) (fun y s₄ => ∃ h₄ tk₄ more, s₄ = ({ s₂ with heap := h₄, toks := tk₄ } : Shared) ∧ Kps h h₄ ∧ (∀ p ∈ more, h₄.get? p.1 = some p.2 ∧ h.get? p.1 = none) ∧ J (i + 1) (ys ++ [y]) (more ++ objs)) E' s₃ else ∃ h₄ tk₄, s₃ = ({ s₂ with heap := h₄, toks := tk₄ } : Shared) ∧ Kps h h₄ ∧ J (i + 1) ys objs) E' { s₂ with heap := h, toks := tk })
    (hRR : ∀ D C h tk m' ys objs, Ups s₂.heap I h → h.Ns C m' → C ≠ D → h.get? D = some (lst ys) → s₂.heap.get? D = none → s₂.heap.get? C = none → (∀ p ∈ objs, h.get? p.1 = some p.2 ∧ s₂.heap.get? p.1 = none ∧ p.1 ≠ C ∧ p.1 ≠ D) → J n ys objs → ys.length ≤ n →
      RR (.ref D) C (.ok .next) { s₂ with heap := h, toks := tk }) :
    wpAny (model prog w) A (newList []) (fun acc s₃ => wpAny (model prog w) A (newFunctionEnv scope env.globals cl [] env.qual none .none (some env)) (fun cenv s₄ =>
      codeAny (model prog w) A (.compStart (.ListComp elt [⟨target, iter, [c], 0⟩] scope pos) 0 (.ref I) acc { cenv with scope := relabel scope env }) (RR acc cenv.locals) s₄) E s₃) E s₂ := by
  refine wpAny_newObj_type (wpAny_newFunctionEnv hcell (by intro y hy; simp at hy) (fun h₁ hns₁ hsb₁ => ?_) hkind)
  dsimp only at hns₁ hsb₁ ⊢
  generalize hH2 : s₂.heap.push { cls := .type "list", dict := none, data := .seq ([] : List Value).toArray } = H2 at hns₁ hsb₁ ⊢
  have hC : H2.objs.size = s₂.heap.objs.size + 1 := by rw [← hH2, Heap.size_push]
  have hDC : s₂.heap.objs.size ≠ H2.objs.size := by rw [hC]; exact Nat.ne_of_lt (Nat.lt_succ_self _)
  have below : ∀ b, b < s₂.heap.objs.size → b ≠ H2.objs.size ∧ b ≠ s₂.heap.objs.size := fun b hb => ⟨by rw [hC]; exact Nat.ne_of_lt (Nat.lt_succ_of_lt hb), Nat.ne_of_lt hb⟩
  have hDf : s₂.heap.objs.size ∉ fp := fun hm => Nat.lt_irrefl _ (hfp _ hm)
  have hCf : H2.objs.size ∉ fp := fun hm => by have := hfp _ hm; rw [hC] at this; exact Nat.lt_irrefl _ (Nat.lt_of_succ_lt this)
  have hIlt : I < s₂.heap.objs.size := hfp I (W.sub I (List.mem_singleton.mpr rfl))
  have old : Kps s₂.heap h₁ := fun b o e => hsb₁.extBut b o (below b (Heap.lt_size e)).1 (Heap.get?_push_of_some _ (hH2 ▸ Heap.get?_push_of_some _ e))
  have hacc : h₁.get? s₂.heap.objs.size = some (lst []) := hsb₁.extBut _ _ hDC (Heap.get?_push_of_some _ (hH2 ▸ Heap.get?_push_size _ rfl))
  have fresh : ∀ a, s₂.heap.objs.size ≤ a → s₂.heap.get? a = none := fun a ha => by
    cases e : s₂.heap.get? a with
    | none => rfl
    | some o' => exact absurd (Heap.lt_size e) (Nat.not_lt.mpr ha)
  have hD₀ := fresh _ (Nat.le_refl s₂.heap.objs.size)
  have hC₀ : s₂.heap.get? H2.objs.size = none := fresh _ (by rw [hC]; exact Nat.le_succ _)
  have hCI : I ≠ H2.objs.size := (below I hIlt).1
  have hDI : I ≠ s₂.heap.objs.size := (below I hIlt).2
  have loop : ∀ s₃ : Shared, s₃ = { s₂ with heap := h₁, toks := s₂.toks + ([] : List (Str × Value)).length } →
      codeAny (model prog w) A (.compLoop (.ListComp elt [⟨target, iter, [c], 0⟩] scope pos) 0 (.ref I) (.ref s₂.heap.objs.size) (compEnvC scope cl H2.objs.size env)) (RR (.ref s₂.heap.objs.size) H2.objs.size) s₃ := by
    rintro s₃ rfl
    refine kct_loop
      (fun k s' => ∃ h' tk i ys objs m', s' = ({ s₂ with heap := h', toks := tk } : Shared) ∧ i ≤ n ∧ k = n + 1 - i ∧ ys.length ≤ i ∧ St i h' ∧ Ups s₂.heap I h' ∧ h'.Ns H2.objs.size m' ∧ h'.get? s₂.heap.objs.size = some (lst ys) ∧
        (∀ p ∈ objs, h'.get? p.1 = some p.2 ∧ s₂.heap.get? p.1 = none ∧ p.1 ≠ I ∧ p.1 ≠ H2.objs.size ∧ p.1 ≠ s₂.heap.objs.size) ∧ J i ys objs) ?_ (n + 1)
      ⟨h₁, _, 0, [], [], _, rfl, Nat.zero_le _, rfl, Nat.le_refl _, W.frame _ _ _ hst (fun b _ o e => old b o e), fun b o _ e => old b o e, hns₁, hacc, (fun p hp => nomatch hp), J0⟩
    rintro k s' ⟨h', tk, i, ys, objs, m', rfl, hi, rfl, hyl, hst', U', hn', hD', O', J'⟩
    by_cases hlt : i < n
    · refine W.item i _ _ _ hlt hst' fun v h₂ tk₂ hMd hk₂ => ?_
      refine W.go i v _ _ _ hMd fun h₃ hP hst₃ hk₃ => ?_
      have up₃ : ∀ c o, c ≠ I → h'.get? c = some o → h₃.get? c = some o := fun c o hc e => hk₃ c o (by simpa using hc) (hk₂ c o (by simpa using hc) e)
      refine tgt i v h₃ _ H2.objs.size _ _ _ hP (hn'.at' fun o e => up₃ _ o (Ne.symm hCI) e) (fun c o hc e => up₃ c o hc (U' c o hc e)) fun h₄ tk₄ m₄ hn₄ hB₄ hk₄ => ?_
      have up₄ : ∀ c o, c ≠ I → c ≠ H2.objs.size → h'.get? c = some o → h₄.get? c = some o := fun c o h1 h2 e => hk₄ c o h2 (up₃ c o h1 e)
      have U₄ : Ups s₂.heap I h₄ := fun c o hc e => up₄ c o hc (below c (Heap.lt_size e)).1 (U' c o hc e)
      have O₄ : ∀ p ∈ objs, h₄.get? p.1 = some p.2 := fun p hp => up₄ _ _ (O' p hp).2.2.1 (O' p hp).2.2.2.1 (O' p hp).1
      have D₄ := up₄ _ _ (Ne.symm hDI) hDC hD'
      have st₄ : St (i + 1) h₄ := W.frame _ _ _ hst₃ fun b hb o e => hk₄ b o (fun q => hCf (by have q' : b = H2.objs.size := q; rw [← q']; exact hb)) e
      have stay : ∀ (h₅ : Heap) tk₅ ys' objs', Kps h₄ h₅ → ys'.length ≤ i + 1 → h₅.get? s₂.heap.objs.size = some (lst ys) → (∀ p ∈ objs', h₅.get? p.1 = some p.2 ∧ s₂.heap.get? p.1 = none ∧ p.1 ≠ I ∧ p.1 ≠ H2.objs.size ∧ p.1 ≠ s₂.heap.objs.size) → J (i + 1) ys' objs' →
          ∀ h₆, Heap.SameBut s₂.heap.objs.size h₅ h₆ → h₆.get? s₂.heap.objs.size = some (lst ys') →
          ∃ q, q < n + 1 - i ∧ ∃ h' tk i ys objs m', ({ s₂ with heap := h₆, toks := tk₅ } : Shared) = ({ s₂ with heap := h', toks := tk } : Shared) ∧ i ≤ n ∧ q = n + 1 - i ∧ ys.length ≤ i ∧ St i h' ∧ Ups s₂.heap I h' ∧ h'.Ns H2.objs.size m' ∧ h'.get? s₂.heap.objs.size = some (lst ys) ∧
            (∀ p ∈ objs, h'.get? p.1 = some p.2 ∧ s₂.heap.get? p.1 = none ∧ p.1 ≠ I ∧ p.1 ≠ H2.objs.size ∧ p.1 ≠ s₂.heap.objs.size) ∧ J i ys objs := by
        intro h₅ tk₅ ys' objs' k₅ hl₅ _ O₅ J₅ h₆ s₆ D₆
        exact ⟨n + 1 - (i + 1), by omega, h₆, tk₅, i + 1, ys', objs', m₄, rfl, hlt, rfl, hl₅, W.frame _ _ _ st₄ (fun b hb o e => s₆.extBut b o (fun q => hDf (by have q' : b = s₂.heap.objs.size := q; rw [← q']; exact hb)) (k₅ b o e)),
          fun c o hc e => s₆.extBut c o (below c (Heap.lt_size e)).2 (k₅ c o (U₄ c o hc e)), (hn₄.at' fun o e => k₅ _ o e).sameBut s₆ (Ne.symm hDC), D₆, fun p hp => ⟨s₆.extBut _ _ (O₅ p hp).2.2.2.2 (O₅ p hp).1, (O₅ p hp).2⟩, J₅⟩
      have grow : ∀ (h₅ : Heap) more, Kps h₄ h₅ → (∀ p ∈ more, h₅.get? p.1 = some p.2 ∧ h₄.get? p.1 = none) → ∀ p ∈ more ++ objs, h₅.get? p.1 = some p.2 ∧ s₂.heap.get? p.1 = none ∧ p.1 ≠ I ∧ p.1 ≠ H2.objs.size ∧ p.1 ≠ s₂.heap.objs.size := by
        intro h₅ more k₅ hm p hp
        rcases List.mem_append.mp hp with hp | hp
        · obtain ⟨e1, e2⟩ := hm p hp
          have no : ∀ c o, h₄.get? c = some o → p.1 ≠ c := fun c o e q => by rw [q, e] at e2; cases e2
          obtain ⟨oC, _, _, eC, _⟩ := hn₄
          have hI4 : ∃ o, h₄.get? I = some o := by
            cases q : h₄.get? I with
            | some o => exact ⟨o, rfl⟩
            | none => exact absurd q (iter_there st₄)
          obtain ⟨oI, eI⟩ := hI4
          refine ⟨e1, ?_, no I oI eI, no _ oC eC, no _ _ D₄⟩
          cases q : s₂.heap.get? p.1 with
          | none => rfl
          | some o =>
            by_cases hI : p.1 = I
            · exact absurd hI (no I oI eI)
            · have := U₄ p.1 o hI q; rw [e2] at this; cases this
        · exact ⟨k₅ _ _ (O₄ p hp), (O' p hp).2⟩
      refine wpAny_mono (turn i h₄ _ H2.objs.size m₄ ys objs _ hlt hB₄ J' hn₄ U₄ O₄) (fun okb s₅ h₅ => ?_) fun _ _ e => e
      cases okb with
      | false =>
        simp only [Bool.false_eq_true, if_false] at h₅ ⊢
        obtain ⟨h₅, tk₅, rfl, k₅, J₅⟩ := h₅
        exact stay h₅ tk₅ ys objs k₅ (Nat.le_succ_of_le hyl) (k₅ _ _ D₄) (fun p hp => ⟨k₅ _ _ (O₄ p hp), (O' p hp).2⟩) J₅ h₅ (Heap.SameBut.refl ..) (k₅ _ _ D₄)
      | true =>
        simp only [if_true] at h₅ ⊢
        refine wpAny_mono h₅ (fun y s₆ h₆ => ?_) fun _ _ e => e
        obtain ⟨h₅, tk₅, more, rfl, k₅, hm₅, J₅⟩ := h₆
        have zD := k₅ _ _ D₄
        refine append_at (hsz := by show ys.toArray.size ≤ sizeLine; rw [List.size_toArray]; exact Nat.le_trans hyl (Nat.le_trans hi hsz)) zD fun h₆ hs₆ hD₆ => ?_
        exact stay h₅ _ (ys ++ [y]) (more ++ objs) k₅ (by rw [List.length_append, List.length_singleton]; exact Nat.succ_le_succ hyl) zD (grow h₅ more k₅ hm₅) J₅ h₆ hs₆ (hD₆.trans (congrArg some (lst_snoc ys y)))
    · obtain rfl : i = n := Nat.le_antisymm hi (Nat.not_lt.mp hlt)
      refine W.done _ _ _ hst' fun h₂ tk₂ hk₂ => ?_
      have up₂ : ∀ c o, c ≠ I → h'.get? c = some o → h₂.get? c = some o := fun c o hc e => hk₂ c o (by simpa using hc) e
      exact hRR _ _ h₂ tk₂ _ ys objs (fun c o hc e => up₂ c o hc (U' c o hc e)) (hn'.at' fun o e => up₂ _ o (Ne.symm hCI) e) (Ne.symm hDC) (up₂ _ _ (Ne.symm hDI) hD') hD₀ hC₀
        (fun p hp => ⟨up₂ _ _ (O' p hp).2.2.1 (O' p hp).1, (O' p hp).2.1, (O' p hp).2.2.2.1, (O' p hp).2.2.2.2⟩) J' hyl
  exact codeAny_compStart_list (loop _ rfl) (self _ _ _ (W.frame _ _ _ hst fun b _ o e => old b o e) (loop _ rfl))
end

section
variable {prog : Program} {w : World} {A : Around} {E : Value → Shared → Prop} {s : Shared} {env : Env}
theorem comp_n_block {elt iter target : Exp} {scope : Scope} {cl : List (Str × Addr)} {pos : Pos} {s₂ : Shared} {I : Addr} {fp : List Addr} {n : Nat} {P Md : Nat → Value → Heap → Prop} {St : Nat → Heap → Prop} {Bd : Nat → (Str → Option Value) → Prop}
    {J : Nat → List Value → List (Addr × Obj) → Prop} {RR : Value → Addr → Result → Shared → Prop}
    (W : KTurns prog w A target I fp [I] n P Md St) (hsz : n ≤ sizeLine) (iter_there : ∀ {i h}, St i h → h.get? I ≠ none) (hfp : ∀ b ∈ fp, b < s₂.heap.objs.size) (hst : St 0 s₂.heap)
    (self : ∀ (s : Shared) (Q : Value → Shared → Prop) (E : Value → Shared → Prop), St 0 s.heap → Q (.ref I) s → wpAny (model prog w) A (pyIter (.ref I)) Q E s)
    (hcell : ∀ y ∈ scope.names, y.2 ≠ .cell) (hkind : scope.kind = .function)
    (tgt : ∀ i v h tk C m₀ (Q' : Unit → Shared → Prop) (E' : Value → Shared → Prop), P i v h → h.Ns C m₀ → Ups s₂.heap I h → (∀ h' tk' m', h'.Ns C m' → Bd i m' → (∀ c o, c ≠ C → h.get? c = some o → h'.get? c = some o) → Q' () { s₂ with heap := h', toks := tk' }) →
      wpAny (model prog w) A (assign target (compEnvC scope cl C env) v) Q' E' { s₂ with heap := h, toks := tk })
    (J0 : J 0 [] [])
    (turn : ∀ i h tk C m' ys objs (E' : Value → Shared → Prop), i < n → Bd i m' → J i ys objs → h.Ns C m' → Ups s₂.heap I h → (∀ p ∈ objs, h.get? p.1 = some p.2) →
      wpAny (model prog w) A (eval elt (compEnvC scope cl C env)) (fun y s₄ => ∃ h₄ tk₄ more, s₄ = ({ s₂ with heap := h₄, toks := tk₄ } : Shared) ∧ Kps h h₄ ∧ (∀ p ∈ more, h₄.get? p.1 = some p.2 ∧ h.get? p.1 = none) ∧ J (i + 1) (ys ++ [y]) (more ++ objs)) E' { s₂ with heap := h, toks := tk })
    (hRR : ∀ D C h tk m' ys objs, Ups s₂.heap I h → h.Ns C m' → C ≠ D → h.get? D = some (lst ys) → s₂.heap.get? D = none → s₂.heap.get? C = none → (∀ p ∈ objs, h.get? p.1 = some p.2 ∧ s₂.heap.get? p.1 = none ∧ p.1 ≠ C ∧ p.1 ≠ D) → J n ys objs → ys.length ≤ n →
      RR (.ref D) C (.ok .next) { s₂ with heap := h, toks := tk }) :
    wpAny (model prog w) A (newList []) (fun acc s₃ => wpAny (model prog w) A (newFunctionEnv scope env.globals cl [] env.qual none .none (some env)) (fun cenv s₄ =>
      codeAny (model prog w) A (.compStart (.ListComp elt [⟨target, iter, [], 0⟩] scope pos) 0 (.ref I) acc { cenv with scope := relabel scope env }) (RR acc cenv.locals) s₄) E s₃) E s₂ := by
  refine wpAny_newObj_type (wpAny_newFunctionEnv hcell (by intro y hy; simp at hy) (fun h₁ hns₁ hsb₁ => ?_) hkind)
  dsimp only at hns₁ hsb₁ ⊢
  generalize hH2 : s₂.heap.push { cls := .type "list", dict := none, data := .seq ([] : List Value).toArray } = H2 at hns₁ hsb₁ ⊢
  have hC : H2.objs.size = s₂.heap.objs.size + 1 := by rw [← hH2, Heap.size_push]
  have hDC : s₂.heap.objs.size ≠ H2.objs.size := by rw [hC]; exact Nat.ne_of_lt (Nat.lt_succ_self _)
  have below : ∀ b, b < s₂.heap.objs.size → b ≠ H2.objs.size ∧ b ≠ s₂.heap.objs.size := fun b hb => ⟨by rw [hC]; exact Nat.ne_of_lt (Nat.lt_succ_of_lt hb), Nat.ne_of_lt hb⟩
  have hDf : s₂.heap.objs.size ∉ fp := fun hm => Nat.lt_irrefl _ (hfp _ hm)
  have hCf : H2.objs.size ∉ fp := fun hm => by have := hfp _ hm; rw [hC] at this; exact Nat.lt_irrefl _ (Nat.lt_of_succ_lt this)
  have hIlt : I < s₂.heap.objs.size := hfp I (W.sub I (List.mem_singleton.mpr rfl))
  have old : Kps s₂.heap h₁ := fun b o e => hsb₁.extBut b o (below b (Heap.lt_size e)).1 (Heap.get?_push_of_some _ (hH2 ▸ Heap.get?_push_of_some _ e))
  have hacc : h₁.get? s₂.heap.objs.size = some (lst []) := hsb₁.extBut _ _ hDC (Heap.get?_push_of_some _ (hH2 ▸ Heap.get?_push_size _ rfl))
  have fresh : ∀ a, s₂.heap.objs.size ≤ a → s₂.heap.get? a = none := fun a ha => by
    cases e : s₂.heap.get? a with
    | none => rfl
    | some o' => exact absurd (Heap.lt_size e) (Nat.not_lt.mpr ha)
  have hD₀ := fresh _ (Nat.le_refl s₂.heap.objs.size)
  have hC₀ : s₂.heap.get? H2.objs.size = none := fresh _ (by rw [hC]; exact Nat.le_succ _)
  have hCI : I ≠ H2.objs.size := (below I hIlt).1
  have hDI : I ≠ s₂.heap.objs.size := (below I hIlt).2
  have loop : ∀ s₃ : Shared, s₃ = { s₂ with heap := h₁, toks := s₂.toks + ([] : List (Str × Value)).length } →
      codeAny (model prog w) A (.compLoop (.ListComp elt [⟨target, iter, [], 0⟩] scope pos) 0 (.ref I) (.ref s₂.heap.objs.size) (compEnvC scope cl H2.objs.size env)) (RR (.ref s₂.heap.objs.size) H2.objs.size) s₃ := by
    rintro s₃ rfl
    refine kcp_loop
      (fun k s' => ∃ h' tk i ys objs m', s' = ({ s₂ with heap := h', toks := tk } : Shared) ∧ i ≤ n ∧ k = n + 1 - i ∧ ys.length ≤ i ∧ St i h' ∧ Ups s₂.heap I h' ∧ h'.Ns H2.objs.size m' ∧ h'.get? s₂.heap.objs.size = some (lst ys) ∧
        (∀ p ∈ objs, h'.get? p.1 = some p.2 ∧ s₂.heap.get? p.1 = none ∧ p.1 ≠ I ∧ p.1 ≠ H2.objs.size ∧ p.1 ≠ s₂.heap.objs.size) ∧ J i ys objs) ?_ (n + 1)
      ⟨h₁, _, 0, [], [], _, rfl, Nat.zero_le _, rfl, Nat.le_refl _, W.frame _ _ _ hst (fun b _ o e => old b o e), fun b o _ e => old b o e, hns₁, hacc, (fun p hp => nomatch hp), J0⟩
    rintro k s' ⟨h', tk, i, ys, objs, m', rfl, hi, rfl, hyl, hst', U', hn', hD', O', J'⟩
    by_cases hlt : i < n
    · refine W.item i _ _ _ hlt hst' fun v h₂ tk₂ hMd hk₂ => ?_
      refine W.go i v _ _ _ hMd fun h₃ hP hst₃ hk₃ => ?_
      have up₃ : ∀ c o, c ≠ I → h'.get? c = some o → h₃.get? c = some o := fun c o hc e => hk₃ c o (by simpa using hc) (hk₂ c o (by simpa using hc) e)
      refine tgt i v h₃ _ H2.objs.size _ _ _ hP (hn'.at' fun o e => up₃ _ o (Ne.symm hCI) e) (fun c o hc e => up₃ c o hc (U' c o hc e)) fun h₄ tk₄ m₄ hn₄ hB₄ hk₄ => ?_
      have up₄ : ∀ c o, c ≠ I → c ≠ H2.objs.size → h'.get? c = some o → h₄.get? c = some o := fun c o h1 h2 e => hk₄ c o h2 (up₃ c o h1 e)
      have U₄ : Ups s₂.heap I h₄ := fun c o hc e => up₄ c o hc (below c (Heap.lt_size e)).1 (U' c o hc e)
      have O₄ : ∀ p ∈ objs, h₄.get? p.1 = some p.2 := fun p hp => up₄ _ _ (O' p hp).2.2.1 (O' p hp).2.2.2.1 (O' p hp).1
      have D₄ := up₄ _ _ (Ne.symm hDI) hDC hD'
      have st₄ : St (i + 1) h₄ := W.frame _ _ _ hst₃ fun b hb o e => hk₄ b o (fun q => hCf (by have q' : b = H2.objs.size := q; rw [← q']; exact hb)) e
      have stay : ∀ (h₅ : Heap) tk₅ ys' objs', Kps h₄ h₅ → ys'.length ≤ i + 1 → h₅.get? s₂.heap.objs.size = some (lst ys) → (∀ p ∈ objs', h₅.get? p.1 = some p.2 ∧ s₂.heap.get? p.1 = none ∧ p.1 ≠ I ∧ p.1 ≠ H2.objs.size ∧ p.1 ≠ s₂.heap.objs.size) → J (i + 1) ys' objs' →
          ∀ h₆, Heap.SameBut s₂.heap.objs.size h₅ h₆ → h₆.get? s₂.heap.objs.size = some (lst ys') →
          ∃ q, q < n + 1 - i ∧ ∃ h' tk i ys objs m', ({ s₂ with heap := h₆, toks := tk₅ } : Shared) = ({ s₂ with heap := h', toks := tk } : Shared) ∧ i ≤ n ∧ q = n + 1 - i ∧ ys.length ≤ i ∧ St i h' ∧ Ups s₂.heap I h' ∧ h'.Ns H2.objs.size m' ∧ h'.get? s₂.heap.objs.size = some (lst ys) ∧
            (∀ p ∈ objs, h'.get? p.1 = some p.2 ∧ s₂.heap.get? p.1 = none ∧ p.1 ≠ I ∧ p.1 ≠ H2.objs.size ∧ p.1 ≠ s₂.heap.objs.size) ∧ J i ys objs := by
        intro h₅ tk₅ ys' objs' k₅ hl₅ _ O₅ J₅ h₆ s₆ D₆
        exact ⟨n + 1 - (i + 1), by omega, h₆, tk₅, i + 1, ys', objs', m₄, rfl, hlt, rfl, hl₅, W.frame _ _ _ st₄ (fun b hb o e => s₆.extBut b o (fun q => hDf (by have q' : b = s₂.heap.objs.size := q; rw [← q']; exact hb)) (k₅ b o e)),
          fun c o hc e => s₆.extBut c o (below c (Heap.lt_size e)).2 (k₅ c o (U₄ c o hc e)), (hn₄.at' fun o e => k₅ _ o e).sameBut s₆ (Ne.symm hDC), D₆, fun p hp => ⟨s₆.extBut _ _ (O₅ p hp).2.2.2.2 (O₅ p hp).1, (O₅ p hp).2⟩, J₅⟩
      have grow : ∀ (h₅ : Heap) more, Kps h₄ h₅ → (∀ p ∈ more, h₅.get? p.1 = some p.2 ∧ h₄.get? p.1 = none) → ∀ p ∈ more ++ objs, h₅.get? p.1 = some p.2 ∧ s₂.heap.get? p.1 = none ∧ p.1 ≠ I ∧ p.1 ≠ H2.objs.size ∧ p.1 ≠ s₂.heap.objs.size := by
        intro h₅ more k₅ hm p hp
        rcases List.mem_append.mp hp with hp | hp
        · obtain ⟨e1, e2⟩ := hm p hp
          have no : ∀ c o, h₄.get? c = some o → p.1 ≠ c := fun c o e q => by rw [q, e] at e2; cases e2
          obtain ⟨oC, _, _, eC, _⟩ := hn₄
          have hI4 : ∃ o, h₄.get? I = some o := by
            cases q : h₄.get? I with
            | some o => exact ⟨o, rfl⟩
            | none => exact absurd q (iter_there st₄)
          obtain ⟨oI, eI⟩ := hI4
          refine ⟨e1, ?_, no I oI eI, no _ oC eC, no _ _ D₄⟩
          cases q : s₂.heap.get? p.1 with
          | none => rfl
          | some o =>
            by_cases hI : p.1 = I
            · exact absurd hI (no I oI eI)
            · have := U₄ p.1 o hI q; rw [e2] at this; cases this
        · exact ⟨k₅ _ _ (O₄ p hp), (O' p hp).2⟩
      refine wpAny_mono (turn i h₄ _ H2.objs.size m₄ ys objs _ hlt hB₄ J' hn₄ U₄ O₄) (fun y s₆ h₆ => ?_) fun _ _ e => e
      obtain ⟨h₅, tk₅, more, rfl, k₅, hm₅, J₅⟩ := h₆
      have zD := k₅ _ _ D₄
      refine append_at (hsz := by show ys.toArray.size ≤ sizeLine; rw [List.size_toArray]; exact Nat.le_trans hyl (Nat.le_trans hi hsz)) zD fun h₆ hs₆ hD₆ => ?_
      exact stay h₅ _ (ys ++ [y]) (more ++ objs) k₅ (by rw [List.length_append, List.length_singleton]; exact Nat.succ_le_succ hyl) zD (grow h₅ more k₅ hm₅) J₅ h₆ hs₆ (hD₆.trans (congrArg some (lst_snoc ys y)))
    · obtain rfl : i = n := Nat.le_antisymm hi (Nat.not_lt.mp hlt)
      refine W.done _ _ _ hst' fun h₂ tk₂ hk₂ => ?_
      have up₂ : ∀ c o, c ≠ I → h'.get? c = some o → h₂.get? c = some o := fun c o hc e => hk₂ c o (by simpa using hc) e
      exact hRR _ _ h₂ tk₂ _ ys objs (fun c o hc e => up₂ c o hc (U' c o hc e)) (hn'.at' fun o e => up₂ _ o (Ne.symm hCI) e) (Ne.symm hDC) (up₂ _ _ (Ne.symm hDI) hD') hD₀ hC₀
        (fun p hp => ⟨up₂ _ _ (O' p hp).2.2.1 (O' p hp).1, (O' p hp).2.1, (O' p hp).2.2.2.1, (O' p hp).2.2.2.2⟩) J' hyl
  exact codeAny_compStart_list (loop _ rfl) (self _ _ _ (W.frame _ _ _ hst fun b _ o e => old b o e) (loop _ rfl))
end
end Mine
end

section
open PySem PySem.W PyProof.Rows PySem.Calls PyProof.Rows.LCg
set_option maxRecDepth 100000
set_option maxHeartbeats 8000000
namespace Mine
theorem is_list_up {h h' : Heap} {l : Addr} {its : Array Value} (hl : h.IsList l its) (k : ∀ c o, c = l → h.get? c = some o → h'.get? c = some o) : h'.IsList l its := by
  obtain ⟨o, e, r⟩ := hl
  exact ⟨o, k _ _ rfl e, r⟩
theorem list_turns {prog : Program} {w : World} {A : Around} {elts : List Exp} {kk : Nat} {tp : Pos} (hh : A.handled = none) (I ax : Addr) (hne : ax ≠ I) (its : Array Value) (hv : ∀ (i : Nat) v, its[i]? = some v → ∃ r, v = .ref r) :
    KTurns prog w A (.Tuple elts kk tp) I [I, ax] [I] its.size (fun i v _ => its[i]? = some v) (fun i v h => its[i]? = some v ∧ (h.IsListIter I ax (i + 1) ∧ h.IsList ax its)) (fun i h => h.IsListIter I ax i ∧ h.IsList ax its) where
  sub := (Walks.list (prog := prog) (w := w) (A := A) hh I ax hne its).sub
  frame := (Walks.list (prog := prog) (w := w) (A := A) hh I ax hne its).frame
  item := fun i s Q E hi st hQ => (Walks.list (prog := prog) (w := w) (A := A) hh I ax hne its).item i s Q E hi st fun v h' tk hP st' hk => hQ v h' tk ⟨hP, st'⟩ hk
  go := fun i v s Q E hm hQ => by
    obtain ⟨r, rfl⟩ := hv i v hm.1
    exact wpAny_letOwnedTupleGo_listiter hm.2.1 (hQ s.heap hm.1 hm.2 fun _ _ _ e => e)
  done := (Walks.list (prog := prog) (w := w) (A := A) hh I ax hne its).done
theorem lt_list {h : Heap} {l : Addr} {its : Array Value} (hl : h.IsList l its) : l < h.objs.size := by obtain ⟨o, e, _⟩ := hl; exact Heap.lt_size e

section
variable {prog : Program} {w : World} {A : Around} {E : Value → Shared → Prop} {s : Shared} {env : Env}
theorem comp_n_rows {elt iter : Exp} {a b : Str} {pa pb tp : Pos} {kk : Nat} {scope : Scope} {cl : List (Str × Addr)} {pos : Pos} {ax : Addr} {its : Array Value} {f : Nat → Value × Value} {J : Nat → List Value → List (Addr × Obj) → Prop} {Q : Value → Shared → Prop}
    (hh : A.handled = none) (hclos : closureFor scope env = pure cl) (hcell : ∀ y ∈ scope.names, y.2 ≠ .cell) (hkind : scope.kind = .function)
    (hnames : ∀ y ∈ scope.names, y.2 = .local → scope.names.lookup y.1 = some .local) (hxa : scope.names.lookup a = some .local) (hxb : scope.names.lookup b = some .local) (hab : ¬ a = b)
    (hit : ∀ (Q' : Value → Shared → Prop), Q' (.ref ax) s → wpAny (model prog w) A (eval iter env) Q' E s) (hl : s.heap.IsList ax its) (hsz : its.size ≤ 1000)
    (hrow : ∀ (i : Nat) v, its[i]? = some v → ∃ r, v = .ref r ∧ s.heap.IsList r #[(f i).1, (f i).2])
    (J0 : J 0 [] [])
    (turn : ∀ i h tk C m' ys objs (E' : Value → Shared → Prop), i < its.size → (m' a = some (f i).1 ∧ m' b = some (f i).2) → J i ys objs → h.Ns C m' → Kps s.heap h → (∀ p ∈ objs, h.get? p.1 = some p.2) →
      wpAny (model prog w) A (eval elt (compEnvC scope cl C env)) (fun y s₄ => ∃ h₄ tk₄ more, s₄ = ({ s with heap := h₄, toks := tk₄ } : Shared) ∧ Kps h h₄ ∧ (∀ p ∈ more, h₄.get? p.1 = some p.2 ∧ h.get? p.1 = none) ∧ J (i + 1) (ys ++ [y]) (more ++ objs)) E' { s with heap := h, toks := tk })
    (fin : ∀ D ys objs h tk, Kps s.heap h → h.get? D = some (lst ys) → s.heap.get? D = none → (∀ p ∈ objs, h.get? p.1 = some p.2 ∧ s.heap.get? p.1 = none ∧ p.1 ≠ D) → J its.size ys objs → ys.length ≤ its.size → Q (.ref D) { s with heap := h, toks := tk })
    (hs : ∀ x, foldedSetIterable iter env x = pure x := by intro _; rfl) :
    wpAny (model prog w) A (eval (.ListComp elt [⟨.Tuple [.Name a pa, .Name b pb] kk tp, iter, [], 0⟩] scope pos) env) Q E s := by
  rw [eval_ListComp]
  refine wpAny_comprehension_free (use := none) rfl hs hclos hkind hnames (hit _ ?_)
  refine wpAny_pyIter_list hl ?_
  have hlt := lt_list hl
  have up : Kps s.heap (s.heap.push { cls := .type "list_iterator", data := .fields #[.ref ax, .int 0 0] }) := fun b o e => Heap.get?_push_of_some _ e
  have U : ∀ h : Heap, Ups (s.heap.push { cls := .type "list_iterator", data := .fields #[.ref ax, .int 0 0] }) s.heap.objs.size h → Kps s.heap h := fun h u c o e => u c o (Nat.ne_of_lt (Heap.lt_size e)) (up c o e)
  have W := Walks.list (prog := prog) (w := w) (A := A) hh s.heap.objs.size ax (Nat.ne_of_lt hlt) its
  refine comp_n_block (Bd := fun i m' => m' a = some (f i).1 ∧ m' b = some (f i).2) (J := J) (list_turns hh s.heap.objs.size ax (Nat.ne_of_lt hlt) its fun i v e => (hrow i v e).imp fun _ x => x.1) (Nat.le_trans hsz (by decide)) (fun {i h} st q => ?_) (fun b hb => ?_) ⟨⟨_, Heap.get?_push_size _ rfl, rfl, rfl⟩, hl.push _⟩
    (fun s' Q' E' st q => W.self 0 s' Q' E' st q) hcell hkind ?_ J0 (fun i h tk C m' ys objs E' hi hB hJ hn u ho => turn i h tk C m' ys objs E' hi hB hJ hn (U h u) ho) ?_
  · obtain ⟨o, e, _⟩ := st.1
    rw [q] at e; cases e
  · show b < (s.heap.push _).objs.size
    rw [Heap.size_push]
    rcases List.mem_cons.mp hb with rfl | hb
    · exact Nat.lt_succ_self _
    · rw [List.mem_singleton.mp hb]; exact Nat.lt_succ_of_lt hlt
  · intro i v h tk C m₀ Q' E' hv hn u hQ
    obtain ⟨r, rfl, hr⟩ := hrow i v hv
    refine asg_two (x := (f i).1) (y := (f i).2) (fun Q'' hq => kun_itemsOf (items := #[(f i).1, (f i).2]) hh (is_list_up hr fun c o _ e => U h u c o e) hq) (lookup_relabel_local hxa) (lookup_relabel_local hxb) (by simp [compEnvC, relabel, hkind]) hn fun h' tk' hn' hk' => ?_
    exact hQ h' tk' _ hn' ⟨by simp [hab], by simp⟩ hk'
  · intro D C h tk m' ys objs u hn hCD hD hD₀ hC₀ ho hJ hlen
    refine ⟨m', hn, fun h'' hs'' => ?_⟩
    have nd : ∀ c, (s.heap.push { cls := .type "list_iterator", data := .fields #[.ref ax, .int 0 0] }).get? c = none → s.heap.get? c = none := fun c e => by
      cases q : s.heap.get? c with
      | none => rfl
      | some o => rw [up c o q] at e; cases e
    exact fin D ys objs h'' tk (fun c o e => hs''.extBut c o (fun q => by rw [q, nd _ hC₀] at e; cases e) (U h u c o e)) (hs''.extBut _ _ (Ne.symm hCD) hD) (nd _ hD₀) (fun p hp => ⟨hs''.extBut _ _ (ho p hp).2.2.1 (ho p hp).1, nd _ (ho p hp).2.1, (ho p hp).2.2.2⟩) hJ hlen
end

section
variable {prog : Program} {w : World} {A : Around} {E : Value → Shared → Prop} {s : Shared} {env : Env}
theorem comp_t_rowsA {elt iter : Exp} {c : Exp} {a b : Str} {pa pb tp : Pos} {kk : Nat} {scope : Scope} {cl : List (Str × Addr)} {pos : Pos} {ax : Addr} {its : Array Value} {f : Nat → Value × Value} {J : Nat → List Value → List (Addr × Obj) → Prop} {Q : Flow → Shared → Prop} {y : Str} {py spos : Pos} {m : Str → Option Value}
    (hsw : swapsWith (.ListComp elt [⟨.Tuple [.Name a pa, .Name b pb] kk tp, iter, [c], 0⟩] scope pos) (some (.Name y py)) spos.line env = pure true) (hn0 : s.heap.Ns env.locals m) (hy : env.kindOf y = some .local) (hpm : (env.scope.kind == .class || (env.scope.kind == .module && env.locals != env.globals)) = false)
    (hh : A.handled = none) (hclos : closureFor scope env = pure cl) (hcell : ∀ y ∈ scope.names, y.2 ≠ .cell) (hkind : scope.kind = .function)
    (hnames : ∀ y ∈ scope.names, y.2 = .local → scope.names.lookup y.1 = some .local) (hxa : scope.names.lookup a = some .local) (hxb : scope.names.lookup b = some .local) (hab : ¬ a = b)
    (hit : ∀ (Q' : Value → Shared → Prop), Q' (.ref ax) s → wpAny (model prog w) A (eval iter env) Q' E s) (hl : s.heap.IsList ax its) (hsz : its.size ≤ 1000)
    (hrow : ∀ (i : Nat) v, its[i]? = some v → ∃ r, v = .ref r ∧ s.heap.IsList r #[(f i).1, (f i).2])
    (J0 : J 0 [] [])
    (turn : ∀ i h tk C m' ys objs (E' : Value → Shared → Prop), i < its.size → (m' a = some (f i).1 ∧ m' b = some (f i).2) → J i ys objs → h.Ns C m' → Kps s.heap h → (∀ p ∈ objs, h.get? p.1 = some p.2) →
      wpAny (model prog w) A (isTrue c (compEnvC scope cl C env) (eval c (compEnvC scope cl C env))) (fun okb s₃ => if okb = true then wpAny (model prog w) A (eval elt (compEnvC scope cl C env)) (fun y s₄ => ∃ h₄ tk₄ more, s₄ = ({ s with heap := h₄, toks := tk₄ } : Shared) ∧ Kps h h₄ ∧ (∀ p ∈ more, h₄.get? p.1 = some p.2 ∧ h.get? p.1 = none) ∧ J (i + 1) (ys ++ [y]) (more ++ objs)) E' s₃ else ∃ h₄ tk₄, s₃ = ({ s with heap := h₄, toks := tk₄ } : Shared) ∧ Kps h h₄ ∧ J (i + 1) ys objs) E' { s with heap := h, toks := tk })
    (fin : ∀ D ys objs h tk, h.Ns env.locals (fun z => if z = y then some (.ref D) else m z) → (∀ c o, c ≠ env.locals → s.heap.get? c = some o → h.get? c = some o) → h.get? D = some (lst ys) → s.heap.get? D = none → (∀ p ∈ objs, h.get? p.1 = some p.2 ∧ s.heap.get? p.1 = none ∧ p.1 ≠ D) → J its.size ys objs → ys.length ≤ its.size → Q .next { s with heap := h, toks := tk })
    (hs : ∀ x, foldedSetIterable iter env x = pure x := by intro _; rfl) :
    wpAny (model prog w) A (exec (.Assign [.Name y py] (.ListComp elt [⟨.Tuple [.Name a pa, .Name b pb] kk tp, iter, [c], 0⟩] scope pos) spos) env) Q E s := by
  rw [exec_Assign_Name_used _ _ _ _ hsw]
  refine wpAny_bind (wpAny_standAt (wpAny_bind ?_))
  show wpAny _ A (do let _ ← comprehension (.ListComp elt [⟨.Tuple [.Name a pa, .Name b pb] kk tp, iter, [c], 0⟩] scope pos) scope env _ (newList []) false (eval iter env) (some (assign (.Name y py) env))) _ _ s
  refine wpAny_bind (wpAny_mono (wpAny_comprehension_free (use := some (assign (.Name y py) env)) (Q := fun _ s' => Q .next s') rfl hs hclos hkind hnames (hit _ ?_)) (fun _ s' hq => wpAny_pure (wpAny_pure hq)) fun _ _ e => e)
  refine wpAny_pyIter_list hl ?_
  have hlt := lt_list hl
  have up : Kps s.heap (s.heap.push { cls := .type "list_iterator", data := .fields #[.ref ax, .int 0 0] }) := fun b o e => Heap.get?_push_of_some _ e
  have U : ∀ h : Heap, Ups (s.heap.push { cls := .type "list_iterator", data := .fields #[.ref ax, .int 0 0] }) s.heap.objs.size h → Kps s.heap h := fun h u c o e => u c o (Nat.ne_of_lt (Heap.lt_size e)) (up c o e)
  have W := Walks.list (prog := prog) (w := w) (A := A) hh s.heap.objs.size ax (Nat.ne_of_lt hlt) its
  refine comp_t_block (Bd := fun i m' => m' a = some (f i).1 ∧ m' b = some (f i).2) (J := J) (list_turns hh s.heap.objs.size ax (Nat.ne_of_lt hlt) its fun i v e => (hrow i v e).imp fun _ x => x.1) (Nat.le_trans hsz (by decide)) (fun {i h} st q => ?_) (fun b hb => ?_) ⟨⟨_, Heap.get?_push_size _ rfl, rfl, rfl⟩, hl.push _⟩
    (fun s' Q' E' st q => W.self 0 s' Q' E' st q) hcell hkind ?_ J0 (fun i h tk C m' ys objs E' hi hB hJ hn u ho => turn i h tk C m' ys objs E' hi hB hJ hn (U h u) ho) ?_
  · obtain ⟨o, e, _⟩ := st.1
    rw [q] at e; cases e
  · show b < (s.heap.push _).objs.size
    rw [Heap.size_push]
    rcases List.mem_cons.mp hb with rfl | hb
    · exact Nat.lt_succ_self _
    · rw [List.mem_singleton.mp hb]; exact Nat.lt_succ_of_lt hlt
  · intro i v h tk C m₀ Q' E' hv hn u hQ
    obtain ⟨r, rfl, hr⟩ := hrow i v hv
    refine asg_two (x := (f i).1) (y := (f i).2) (fun Q'' hq => kun_itemsOf (items := #[(f i).1, (f i).2]) hh (is_list_up hr fun c o _ e => U h u c o e) hq) (lookup_relabel_local hxa) (lookup_relabel_local hxb) (by simp [compEnvC, relabel, hkind]) hn fun h' tk' hn' hk' => ?_
    exact hQ h' tk' _ hn' ⟨by simp [hab], by simp⟩ hk'
  · intro D C h tk m' ys objs u hn hCD hD hD₀ hC₀ ho hJ hlen
    show wpAny _ A (assign (.Name y py) env (.ref D)) _ _ _
    have nd : ∀ c, (s.heap.push { cls := .type "list_iterator", data := .fields #[.ref ax, .int 0 0] }).get? c = none → s.heap.get? c = none := fun c e => by
      cases q : s.heap.get? c with
      | none => rfl
      | some o => rw [up c o q] at e; cases e
    have nL : ∀ c, s.heap.get? c = none → c ≠ env.locals := fun c e q => by
      obtain ⟨o, _, _, e', _⟩ := hn0
      rw [q, e'] at e; cases e
    have hnL : h.Ns env.locals m := hn0.at' fun o e => U h u _ o e
    refine wpAny_assign_Name (wpAny_storeName_local hy hnL (fun h₂ hn₂ hs₂ => ?_) hpm)
    refine ⟨m', hn.sameBut hs₂ (nL _ (nd _ hC₀)), fun h'' hs'' => ?_⟩
    exact fin D ys objs h'' _ (hn₂.sameBut hs'' (nL _ (nd _ hC₀)).symm) (fun c o hc e => hs''.extBut c o (fun q => by rw [q, nd _ hC₀] at e; cases e) (hs₂.extBut c o hc (U h u c o e))) (hs''.extBut _ _ (Ne.symm hCD) (hs₂.extBut _ _ (nL _ (nd _ hD₀)) hD)) (nd _ hD₀)
      (fun p hp => ⟨hs''.extBut _ _ (ho p hp).2.2.1 (hs₂.extBut _ _ (nL _ (nd _ (ho p hp).2.1)) (ho p hp).1), nd _ (ho p hp).2.1, (ho p hp).2.2.2⟩) hJ hlen
end
end Mine
end

section
open PySem PySem.W PyProof.Rows PySem.Calls PyProof.Rows.LCg
set_option maxRecDepth 100000
set_option maxHeartbeats 8000000
namespace Mine
structure Row where
  key : Key
  kv : Value
  th : Value
  r : Addr
def RowsAt (h : Heap) (rows : List Row) : Prop := ∀ x ∈ rows, h.IsList x.r #[x.kv, x.th] ∧ isKey x.key x.kv = true
abbrev tabIts (rows : List Row) : Array Value := (rows.map fun x => Value.ref x.r).toArray
abbrev rowObj (x : Row) : Obj := { cls := .type "list", data := .seq #[x.kv, x.th] }
abbrev trip (x : Row) : Key × Value × Value := (x.key, x.kv, x.th)

theorem nk1 : (NameKind.local == NameKind.free) = false := rfl
theorem nk2 : (NameKind.free == NameKind.free) = true := rfl
theorem nk3 : (ScopeKind.function == ScopeKind.function) = true := rfl
theorem nk4 : (some NameKind.cell == some NameKind.cell) = true := rfl
theorem key_rc {A : Around} {s : Shared} {a b : Key} {u v : Value} (ha : isKey a u = true) (hb : isKey b v = true) : SeqAt.RcAt A s u v (decide (a = b)) := by
  rcases isKey_shape ha with ⟨x, t, rfl, rfl⟩ | ⟨i, t, rfl, rfl⟩
  · rcases isKey_shape hb with ⟨y, u, rfl, rfl⟩ | ⟨j, u, rfl, rfl⟩
    · have := SeqAt.RcAt.str_str (A := A) (s := s) x t y u
      rwa [show (x == y) = decide ((Sum.inl x : Key) = Sum.inl y) from (by by_cases q : x = y <;> simp [q])] at this
    · simpa using SeqAt.RcAt.str_int (A := A) (s := s) x t j u
  · rcases isKey_shape hb with ⟨y, u, rfl, rfl⟩ | ⟨j, u, rfl, rfl⟩
    · simpa using SeqAt.RcAt.int_str (A := A) (s := s) i t y u
    · have := SeqAt.RcAt.int_int (A := A) (s := s) i t j u
      rwa [show (i == j) = decide ((Sum.inr i : Key) = Sum.inr j) from (by by_cases q : i = j <;> simp [q])] at this

abbrev sc3 : Scope := ⟨.function, [(".0", .local), ("one", .local), ("thing", .local), ("key", .free)], false, false, []⟩
abbrev sc4 : Scope := ⟨.function, [(".0", .local), ("one", .local), ("thing", .local), ("hand", .free), ("key", .free)], false, false, []⟩
abbrev sc2 : Scope := ⟨.function, [(".0", .local), ("key", .local), ("thing", .local)], false, false, []⟩
section
variable {env : Env} {cl : List (Str × Addr)} {C : Addr}
theorem k3_one : (compEnvC sc3 cl C env).kindOf "one" = some .local := lookup_relabel_local (x := "one") rfl
theorem k3_thing : (compEnvC sc3 cl C env).kindOf "thing" = some .local := lookup_relabel_local (x := "thing") rfl
theorem k4_one : (compEnvC sc4 cl C env).kindOf "one" = some .local := lookup_relabel_local (x := "one") rfl
theorem k4_thing : (compEnvC sc4 cl C env).kindOf "thing" = some .local := lookup_relabel_local (x := "thing") rfl
theorem k3_key (hk : env.scope.kind = .function) (hc : env.kindOf "key" = some .cell) : (compEnvC sc3 cl C env).kindOf "key" = some .cell := by
  show (sc3.names.map fun (n, k) => if (k == .free && env.scope.kind == .function && env.kindOf n == some .cell) then (n, .cell) else (n, k)).lookup ("key" : Str) = _
  simp only [List.map_cons, List.map_nil, hk, hc, nk1, nk2, nk3, nk4, Bool.false_and, Bool.true_and, Bool.false_eq_true, if_true, if_false]
  decide
theorem k4_key (hk : env.scope.kind = .function) (hc : env.kindOf "key" = some .cell) (hd : env.kindOf "hand" = some .cell) : (compEnvC sc4 cl C env).kindOf "key" = some .cell := by
  show (sc4.names.map fun (n, k) => if (k == .free && env.scope.kind == .function && env.kindOf n == some .cell) then (n, .cell) else (n, k)).lookup ("key" : Str) = _
  simp only [List.map_cons, List.map_nil, hk, hc, hd, nk1, nk2, nk3, nk4, Bool.false_and, Bool.true_and, Bool.false_eq_true, if_true, if_false]
  decide
theorem k4_hand (hk : env.scope.kind = .function) (hc : env.kindOf "key" = some .cell) (hd : env.kindOf "hand" = some .cell) : (compEnvC sc4 cl C env).kindOf "hand" = some .cell := by
  show (sc4.names.map fun (n, k) => if (k == .free && env.scope.kind == .function && env.kindOf n == some .cell) then (n, .cell) else (n, k)).lookup ("hand" : Str) = _
  simp only [List.map_cons, List.map_nil, hk, hc, hd, nk1, nk2, nk3, nk4, Bool.false_and, Bool.true_and, Bool.false_eq_true, if_true, if_false]
  decide
end
end Mine
end

section
open PySem PySem.W PyProof.Rows PySem.Calls PyProof.Rows.LCg
set_option maxRecDepth 100000
set_option maxHeartbeats 8000000
namespace Mine
theorem key_rcne {A : Around} {s : Shared} {a b : Key} {u v : Value} (ha : isKey a u = true) (hb : isKey b v = true) : SeqAt.RcNeAt A s u v (!decide (a = b)) := by
  rcases isKey_shape ha with ⟨x, t, rfl, rfl⟩ | ⟨i, t, rfl, rfl⟩
  · rcases isKey_shape hb with ⟨y, u, rfl, rfl⟩ | ⟨j, u, rfl, rfl⟩
    · have := SeqAt.RcNeAt.str_str (A := A) (s := s) x t y u
      rwa [show (x == y) = decide ((Sum.inl x : Key) = Sum.inl y) from (by by_cases q : x = y <;> simp [q])] at this
    · simpa using SeqAt.RcNeAt.str_int (A := A) (s := s) x t j u
  · rcases isKey_shape hb with ⟨y, u, rfl, rfl⟩ | ⟨j, u, rfl, rfl⟩
    · simpa using SeqAt.RcNeAt.int_str (A := A) (s := s) i t y u
    · have := SeqAt.RcNeAt.int_int (A := A) (s := s) i t j u
      rwa [show (i == j) = decide ((Sum.inr i : Key) = Sum.inr j) from (by by_cases q : i = j <;> simp [q])] at this

def rowF (rows : List Row) (i : Nat) : Value × Value := match rows[i]? with | some x => (x.kv, x.th) | none => (.none, .none)
theorem tab_row {h : Heap} {rows : List Row} (hr : RowsAt h rows) : ∀ (i : Nat) v, (tabIts rows)[i]? = some v → ∃ r, v = .ref r ∧ h.IsList r #[(rowF rows i).1, (rowF rows i).2] := by
  intro i v e
  simp only [tabIts, List.getElem?_toArray, List.getElem?_map] at e
  obtain ⟨x, hx, rfl⟩ := Option.map_eq_some_iff.mp e
  refine ⟨x.r, rfl, ?_⟩
  have := (hr x (List.mem_of_getElem? hx)).1
  simp only [rowF, hx]
  exact this
theorem tab_size (rows : List Row) : (tabIts rows).size = rows.length := by simp [tabIts]
theorem row_at {rows : List Row} {i : Nat} (h : i < (tabIts rows).size) : ∃ x, rows[i]? = some x ∧ x ∈ rows ∧ rowF rows i = (x.kv, x.th) ∧ rows.take (i + 1) = rows.take i ++ [x] := by
  rw [tab_size] at h
  refine ⟨rows[i], List.getElem?_eq_getElem h, List.getElem_mem h, ?_, ?_⟩
  · simp only [rowF, List.getElem?_eq_getElem h]
  · rw [List.take_add_one, List.getElem?_eq_getElem h]; rfl
theorem loc_name {M : Model} {A : Around} {E : Value → Shared → Prop} {s : Shared} {env : Env} {scope : Scope} {cl : List (Str × Addr)} {C : Addr} {x : Str} {pos : Pos} {v : Value} {m : Str → Option Value} {Q : Value → Shared → Prop}
    (hx : (compEnvC scope cl C env).kindOf x = some .local) (hn : s.heap.Ns C m) (hv : m x = some v) (h : Q v s)
    (hk : scope.kind = .function := by rfl) (hb : (x == ("__debug__" : Str)) = false := by decide) : wpAny M A (eval (.Name x pos) (compEnvC scope cl C env)) Q E s :=
  wpAny_Name (wpAny_loadName_local hk hx hn hv h) hb
theorem cell_name {M : Model} {A : Around} {E : Value → Shared → Prop} {s : Shared} {env : Env} {scope : Scope} {cl : List (Str × Addr)} {C c : Addr} {x : Str} {pos : Pos} {v : Value} {o : Obj} {Q : Value → Shared → Prop}
    (hx : (compEnvC scope cl C env).kindOf x = some .cell) (hc : cl.lookup x = some c) (ho : s.heap.get? c = some o) (hd : o.data = .cell (some v)) (h : Q v s)
    (hk : scope.kind = .function := by rfl) (hb : (x == ("__debug__" : Str)) = false := by decide) : wpAny M A (eval (.Name x pos) (compEnvC scope cl C env)) Q E s :=
  wpAny_Name (wpAny_loadName_cell hk hx hc ⟨o, ho, hd⟩ h) hb

section
variable {prog : Program} {w : World} {A : Around} {E : Value → Shared → Prop} {s : Shared} {env : Env}
theorem found_comp {iter : Exp} {pa pb tp p1 p2 p3 p4 pos : Pos} {kk : Nat} {ax cc : Addr} {oc : Obj} {rows : List Row} {k : Key} {key : Value} {Q : Flow → Shared → Prop} {y : Str} {py spos : Pos} {m : Str → Option Value}
    (hn0 : s.heap.Ns env.locals m) (hy : env.kindOf y = some .local) (hpm : (env.scope.kind == .class || (env.scope.kind == .module && env.locals != env.globals)) = false)
    (hh : A.handled = none) (hk : env.scope.kind = .function) (hkc : env.kindOf "key" = some .cell) (hclos : closureFor sc3 env = pure [(("key" : Str), cc)])
    (hcc : s.heap.get? cc = some oc) (hcd : oc.data = .cell (some key)) (hkey : isKey k key = true)
    (hit : ∀ (Q' : Value → Shared → Prop), Q' (.ref ax) s → wpAny (model prog w) A (eval iter env) Q' E s) (hl : s.heap.IsList ax (tabIts rows)) (hsz : rows.length ≤ 1000) (hrow : RowsAt s.heap rows)
    (fin : ∀ D h tk, h.Ns env.locals (fun z => if z = y then some (.ref D) else m z) → (∀ c o, c ≠ env.locals → s.heap.get? c = some o → h.get? c = some o) → h.get? D = some (lst ((rows.filter fun x => decide (x.key = k)).map (·.th))) → s.heap.get? D = none → Q .next { s with heap := h, toks := tk })
    (hsw : swapsWith (.ListComp (.Name "thing" p1) [⟨.Tuple [.Name "one" pa, .Name "thing" pb] kk tp, iter, [.Compare (.Name "one" p2) [.Eq] [.Name "key" p3] p4], 0⟩] sc3 pos) (some (.Name y py)) spos.line env = pure true := by rfl) (hs : ∀ x, foldedSetIterable iter env x = pure x := by intro _; rfl) :
    wpAny (model prog w) A (exec (.Assign [.Name y py] (.ListComp (.Name "thing" p1) [⟨.Tuple [.Name "one" pa, .Name "thing" pb] kk tp, iter, [.Compare (.Name "one" p2) [.Eq] [.Name "key" p3] p4], 0⟩] sc3 pos) spos) env) Q E s := by
  refine comp_t_rowsA (f := rowF rows) (J := fun i ys objs => ys = ((rows.take i).filter fun x => decide (x.key = k)).map (·.th) ∧ objs = []) hsw hn0 hy hpm hh hclos (by decide) rfl (by decide) rfl rfl (by decide) hit hl (by rw [tab_size]; exact hsz) (tab_row hrow) ⟨rfl, rfl⟩ ?_ ?_ hs
  · intro i h tk C m' ys objs E' hi hB hJ hn u _
    obtain ⟨x, _, hxm, hxf, htk⟩ := row_at hi
    rw [hxf] at hB
    obtain ⟨rfl, rfl⟩ := hJ
    refine wpAny_isTrue_Compare1 (loc_name k3_one hn hB.1 (cell_name (k3_key hk hkc) rfl (u _ _ hcc) hcd ?_))
    refine key_rc (hrow x hxm).2 hkey prog w _ _ (wpAny_truthy_bool ?_)
    rw [htk]
    by_cases q : x.key = k
    · simp only [q, decide_true, if_true]
      refine loc_name k3_thing hn hB.2 ⟨h, tk, [], rfl, fun _ _ e => e, (fun _ hp => nomatch hp), ?_, rfl⟩
      simp [q]
    · simp only [q, decide_false, Bool.false_eq_true, if_false]
      exact ⟨h, tk, rfl, fun _ _ e => e, by simp [q], trivial⟩
  · intro D ys objs h tk hn u hD hD0 _ hJ _
    refine fin D h tk hn u ?_ hD0
    rw [hD, hJ.1, tab_size, List.take_length]

theorem list_two {e1 e2 : Exp} {pos : Pos} {Q : Value → Shared → Prop}
    (h : wpAny (model prog w) A (eval e1 env) (fun v s₁ => wpAny (model prog w) A (eval e2 env) (fun u s₂ => Q (.ref s₂.heap.objs.size) { s₂ with heap := s₂.heap.push { cls := .type "list", data := .seq #[v, u] } }) E s₁) E s)
    (he : starEach [e1, e2] env = [(false, eval e1 env), (false, eval e2 env)] := by rfl) :
    wpAny (model prog w) A (eval (.List [e1, e2] pos) env) Q E s := by
  refine wpAny_List_spliced ?_
  rw [he]
  show wpAny _ _ (spliced [(false, eval e1 env), (false, eval e2 env)]) _ _ _
  exact spliced_cons (wpAny_mono h (fun v s₁ h₁ => spliced_cons (wpAny_mono h₁ (fun u s₂ h₂ => spliced_nil ⟨(by decide : 2 ≤ sizeLine), h₂⟩) fun _ _ y => y)) fun _ _ y => y)

theorem others_comp {iter : Exp} {pa pb tp p1 p2 p3 p4 p5 p6 pos : Pos} {kk : Nat} {ax cc : Addr} {oc : Obj} {rows : List Row} {k : Key} {key : Value} {Q : Flow → Shared → Prop} {y : Str} {py spos : Pos} {m : Str → Option Value}
    (hn0 : s.heap.Ns env.locals m) (hy : env.kindOf y = some .local) (hpm : (env.scope.kind == .class || (env.scope.kind == .module && env.locals != env.globals)) = false)
    (hh : A.handled = none) (hk : env.scope.kind = .function) (hkc : env.kindOf "key" = some .cell) (hclos : closureFor sc3 env = pure [(("key" : Str), cc)])
    (hcc : s.heap.get? cc = some oc) (hcd : oc.data = .cell (some key)) (hkey : isKey k key = true)
    (hit : ∀ (Q' : Value → Shared → Prop), Q' (.ref ax) s → wpAny (model prog w) A (eval iter env) Q' E s) (hl : s.heap.IsList ax (tabIts rows)) (hsz : rows.length ≤ 1000) (hrow : RowsAt s.heap rows)
    (fin : ∀ D (nr : List Row) h tk, h.Ns env.locals (fun z => if z = y then some (.ref D) else m z) → (∀ c o, c ≠ env.locals → s.heap.get? c = some o → h.get? c = some o) → h.get? D = some (lst (nr.map fun x : Row => Value.ref x.r)) → s.heap.get? D = none → nr.map trip = (rows.filter fun x => !decide (x.key = k)).map trip →
      (∀ x ∈ nr, h.get? x.r = some (rowObj x) ∧ s.heap.get? x.r = none ∧ x.r ≠ D) → Q .next { s with heap := h, toks := tk })
    (hsw : swapsWith (.ListComp (.List [.Name "one" p1, .Name "thing" p5] p6) [⟨.Tuple [.Name "one" pa, .Name "thing" pb] kk tp, iter, [.Compare (.Name "one" p2) [.NotEq] [.Name "key" p3] p4], 0⟩] sc3 pos) (some (.Name y py)) spos.line env = pure true := by rfl) (hs : ∀ x, foldedSetIterable iter env x = pure x := by intro _; rfl) :
    wpAny (model prog w) A (exec (.Assign [.Name y py] (.ListComp (.List [.Name "one" p1, .Name "thing" p5] p6) [⟨.Tuple [.Name "one" pa, .Name "thing" pb] kk tp, iter, [.Compare (.Name "one" p2) [.NotEq] [.Name "key" p3] p4], 0⟩] sc3 pos) spos) env) Q E s := by
  refine comp_t_rowsA (f := rowF rows) (J := fun i ys objs => ∃ nr : List Row, ys = (nr.map fun x : Row => Value.ref x.r) ∧ nr.map trip = ((rows.take i).filter fun x => !decide (x.key = k)).map trip ∧ ∀ x ∈ nr, (x.r, rowObj x) ∈ objs) hsw hn0 hy hpm hh hclos (by decide) rfl (by decide) rfl rfl (by decide) hit hl (by rw [tab_size]; exact hsz) (tab_row hrow) ⟨[], rfl, rfl, fun _ hp => nomatch hp⟩ ?_ ?_ hs
  · intro i h tk C m' ys objs E' hi hB hJ hn u _
    obtain ⟨x, _, hxm, hxf, htk⟩ := row_at hi
    rw [hxf] at hB
    obtain ⟨nr, rfl, hnr, hno⟩ := hJ
    refine wpAny_isTrue_Compare1 (loc_name k3_one hn hB.1 (cell_name (k3_key hk hkc) rfl (u _ _ hcc) hcd ?_))
    refine key_rcne (hrow x hxm).2 hkey prog w _ _ (wpAny_truthy_bool ?_)
    rw [htk]
    by_cases q : x.key = k
    · simp only [q, decide_true, Bool.not_true, Bool.false_eq_true, if_false]
      exact ⟨h, tk, rfl, fun _ _ e => e, nr, rfl, by simp [q, hnr], hno⟩
    · simp only [q, decide_false, Bool.not_false, if_true]
      refine list_two (loc_name k3_one hn hB.1 (loc_name k3_thing hn hB.2 ?_))
      refine ⟨_, tk, [(h.objs.size, rowObj ⟨x.key, x.kv, x.th, h.objs.size⟩)], rfl, fun c o e => Heap.get?_push_of_some _ e, ?_, nr ++ [⟨x.key, x.kv, x.th, h.objs.size⟩], by simp, by simp [hnr, q, trip], ?_⟩
      · intro p hp
        rw [List.mem_singleton.mp hp]
        refine ⟨Heap.get?_push_size _ rfl, ?_⟩
        cases e : h.get? h.objs.size with
        | none => rfl
        | some o => exact absurd (Heap.lt_size e) (Nat.lt_irrefl _)
      · intro y hy
        rcases List.mem_append.mp hy with hy | hy
        · exact List.mem_append_right _ (hno y hy)
        · rw [List.mem_singleton.mp hy]; exact .head _
  · intro D ys objs h tk hn u hD hD0 ho hJ _
    obtain ⟨nr, rfl, hnr, hno⟩ := hJ
    refine fin D nr h tk hn u hD hD0 ?_ fun x hx => ho _ (hno x hx)
    rw [hnr, tab_size, List.take_length]

theorem put_comp {iter : Exp} {pa pb tp p1 p2 p3 p4 p5 p6 p7 p8 pos : Pos} {kk : Nat} {ax cc hc : Addr} {oc oh : Obj} {rows : List Row} {k : Key} {key hand : Value} {Q : Value → Shared → Prop}
    (hh : A.handled = none) (hk : env.scope.kind = .function) (hkc : env.kindOf "key" = some .cell) (hkd : env.kindOf "hand" = some .cell) (hclos : closureFor sc4 env = pure [(("key" : Str), cc), (("hand" : Str), hc)])
    (hcc : s.heap.get? cc = some oc) (hcd : oc.data = .cell (some key)) (hhc : s.heap.get? hc = some oh) (hhd : oh.data = .cell (some hand)) (hkey : isKey k key = true)
    (hit : ∀ (Q' : Value → Shared → Prop), Q' (.ref ax) s → wpAny (model prog w) A (eval iter env) Q' E s) (hl : s.heap.IsList ax (tabIts rows)) (hsz : rows.length ≤ 1000) (hrow : RowsAt s.heap rows)
    (fin : ∀ D (nr : List Row) h tk, Kps s.heap h → h.get? D = some (lst (nr.map fun x : Row => Value.ref x.r)) → s.heap.get? D = none → nr.map trip = rows.map (fun x => (x.key, x.kv, if x.key = k then hand else x.th)) →
      (∀ x ∈ nr, h.get? x.r = some (rowObj x) ∧ s.heap.get? x.r = none ∧ x.r ≠ D) → Q (.ref D) { s with heap := h, toks := tk })
    (hs : ∀ x, foldedSetIterable iter env x = pure x := by intro _; rfl) :
    wpAny (model prog w) A (eval (.ListComp (.List [.Name "one" p1, .IfExp (.Compare (.Name "one" p2) [.Eq] [.Name "key" p3] p4) (.Name "hand" p7) (.Name "thing" p5) p8] p6) [⟨.Tuple [.Name "one" pa, .Name "thing" pb] kk tp, iter, [], 0⟩] sc4 pos) env) Q E s := by
  refine comp_n_rows (f := rowF rows) (J := fun i ys objs => ∃ nr : List Row, ys = (nr.map fun x : Row => Value.ref x.r) ∧ nr.map trip = (rows.take i).map (fun x => (x.key, x.kv, if x.key = k then hand else x.th)) ∧ ∀ x ∈ nr, (x.r, rowObj x) ∈ objs) hh hclos (by decide) rfl (by decide) rfl rfl (by decide) hit hl (by rw [tab_size]; exact hsz) (tab_row hrow) ⟨[], rfl, rfl, fun _ hp => nomatch hp⟩ ?_ ?_ hs
  · intro i h tk C m' ys objs E' hi hB hJ hn u _
    obtain ⟨x, _, hxm, hxf, htk⟩ := row_at hi
    rw [hxf] at hB
    obtain ⟨nr, rfl, hnr, hno⟩ := hJ
    rw [htk]
    refine list_two (loc_name k4_one hn hB.1 (wpAny_IfExp (wpAny_isTrue_Compare1 (loc_name k4_one hn hB.1 (cell_name (k4_key hk hkc hkd) rfl (u _ _ hcc) hcd ?_)))))
    refine key_rc (hrow x hxm).2 hkey prog w _ _ (wpAny_truthy_bool ?_)
    have go : ∀ v, v = (if x.key = k then hand else x.th) → ∃ h₄ tk₄ more, ({ ({ s with heap := h, toks := tk } : Shared) with heap := h.push { cls := .type "list", data := .seq #[x.kv, v] } } : Shared) = ({ s with heap := h₄, toks := tk₄ } : Shared) ∧ Kps h h₄ ∧ (∀ p ∈ more, h₄.get? p.1 = some p.2 ∧ h.get? p.1 = none) ∧
        ∃ nr' : List Row, (nr.map fun x : Row => Value.ref x.r) ++ [Value.ref h.objs.size] = (nr'.map fun x : Row => Value.ref x.r) ∧ nr'.map trip = (rows.take i ++ [x]).map (fun x => (x.key, x.kv, if x.key = k then hand else x.th)) ∧ ∀ x ∈ nr', (x.r, rowObj x) ∈ more ++ objs := by
      intro v hv
      refine ⟨_, tk, [(h.objs.size, rowObj ⟨x.key, x.kv, v, h.objs.size⟩)], rfl, fun c o e => Heap.get?_push_of_some _ e, ?_, nr ++ [⟨x.key, x.kv, v, h.objs.size⟩], by simp, by simp [hnr, trip, hv], ?_⟩
      · intro p hp
        rw [List.mem_singleton.mp hp]
        refine ⟨Heap.get?_push_size _ rfl, ?_⟩
        cases e : h.get? h.objs.size with
        | none => rfl
        | some o => exact absurd (Heap.lt_size e) (Nat.lt_irrefl _)
      · intro y hy
        rcases List.mem_append.mp hy with hy | hy
        · exact List.mem_append_right _ (hno y hy)
        · rw [List.mem_singleton.mp hy]; exact .head _
    by_cases q : x.key = k
    · simp only [q, decide_true, if_true]
      exact cell_name (k4_hand hk hkc hkd) rfl (u _ _ hhc) hhd (go _ (by simp [q]))
    · simp only [q, decide_false, Bool.false_eq_true, if_false]
      exact loc_name k4_thing hn hB.2 (go _ (by simp [q]))
  · intro D ys objs h tk u hD hD0 ho hJ _
    obtain ⟨nr, rfl, hnr, hno⟩ := hJ
    refine fin D nr h tk u hD hD0 ?_ fun x hx => ho _ (hno x hx)
    rw [hnr, tab_size, List.take_length]

theorem keys_comp {iter : Exp} {pa pb tp p1 pos : Pos} {kk : Nat} {ax : Addr} {rows : List Row} {Q : Value → Shared → Prop}
    (hh : A.handled = none) (hclos : closureFor sc2 env = pure [])
    (hit : ∀ (Q' : Value → Shared → Prop), Q' (.ref ax) s → wpAny (model prog w) A (eval iter env) Q' E s) (hl : s.heap.IsList ax (tabIts rows)) (hsz : rows.length ≤ 1000) (hrow : RowsAt s.heap rows)
    (fin : ∀ D h tk, Kps s.heap h → h.get? D = some (lst (rows.map (·.kv))) → s.heap.get? D = none → Q (.ref D) { s with heap := h, toks := tk })
    (hs : ∀ x, foldedSetIterable iter env x = pure x := by intro _; rfl) :
    wpAny (model prog w) A (eval (.ListComp (.Name "key" p1) [⟨.Tuple [.Name "key" pa, .Name "thing" pb] kk tp, iter, [], 0⟩] sc2 pos) env) Q E s := by
  refine comp_n_rows (f := rowF rows) (J := fun i ys objs => ys = (rows.take i).map (·.kv) ∧ objs = []) hh hclos (by decide) rfl (by decide) rfl rfl (by decide) hit hl (by rw [tab_size]; exact hsz) (tab_row hrow) ⟨rfl, rfl⟩ ?_ ?_ hs
  · intro i h tk C m' ys objs E' hi hB hJ hn u _
    obtain ⟨x, _, hxm, hxf, htk⟩ := row_at hi
    rw [hxf] at hB
    obtain ⟨rfl, rfl⟩ := hJ
    rw [htk]
    refine loc_name (lookup_relabel_local (x := "key") rfl) hn hB.1 ⟨h, tk, [], rfl, fun _ _ e => e, (fun _ hp => nomatch hp), ?_, rfl⟩
    simp
  · intro D ys objs h tk u hD hD0 _ hJ _
    refine fin D h tk u ?_ hD0
    rw [hD, hJ.1, tab_size, List.take_length]
end
end Mine
end

section
open PySem PySem.W PyProof.Rows PySem.Calls PyProof.Rows.LCg
set_option maxRecDepth 100000
set_option maxHeartbeats 8000000
namespace Mine
section
variable {prog : Program} {w : World} {A : Around} {E : Value → Shared → Prop} {s : Shared} {b DD : Addr} {F : Option Value} {es : Array DictEntry} {ep : Nat} {kvs : List (Key × Value)}
theorem b_iterItems {v : Addr} {Q : Value → Shared → Prop} (hv : s.heap.IsItemsView v b) (hb : s.heap.get? b = some (bobj DD F es ep)) (I : Bk prog w es kvs)
    (hQ : Q (.ref s.heap.objs.size) { s with heap := s.heap.push { cls := .type "dict_itemiterator", data := .fields #[.none, .bool false, .ref b, .int 0 0, .int kvs.length 0, .int ep 0, .none, .none] } }) :
    wpAny (model prog w) A (pyIter (.ref v)) Q E s := by
  obtain ⟨ov, e1, _, e3⟩ := id hv
  refine wpAny_pyIter_slot hv.typeIs PySem.F.slot_dict_items_iter (wpAny_call_entry PySem.F.slot_dict_items_iter hv.typeIs PySem.F.entry_dict_items_iter ?_ (PySem.F.args_dict_items_iter_1 _))
  unfold Builtin.«dict_items.__iter__» Builtin.Dict_items.dictOf Builtin.Dict_items.newIterator
  refine wpAny_bind (wpAny_pure (wpAny_bind (wpAny_bind (wpAny_field e1 e3 (x := .ref b) rfl (wpAny_pure ?_)))))
  refine wpAny_bind (wpAny_bind (wpAny_dictEntries hb rfl (wpAny_bind (wpAny_dictEpoch hb rfl ?_))))
  have own : Builtin.Dict_items.ownsTuple "dict_itemiterator" = true := by decide
  simp only [own, if_true]
  refine wpAny_newObj_type (wpAny_pure ⟨_, rfl, "dict_itemiterator", _, ⟨_, Heap.get?_push_size _ rfl, rfl⟩, PySem.F.slot_dict_itemiterator_next.lookup, ?_⟩) (by simp only [sizeOk, Builtin.Dict_items.ownedTupleFields, List.size_toArray, List.length_append, List.length_cons, List.length_nil, sizeLine_eq]; omega)
  have hz := I.size
  simpa [rawInt, hz, Builtin.Dict_items.ownedTupleFields] using hQ

abbrev ItIn (h : Heap) (it b : Addr) (i n ep : Nat) (x y : Value) : Prop := IsItemIter h it b i n ep x y

theorem b_nextItem {it : Addr} {i : Nat} {k : Key} {v x y : Value} {Q : Option Value → Shared → Prop} (hi : IsItemIter s.heap it b i kvs.length ep x y) (hb : s.heap.get? b = some (bobj DD F es ep)) (I : Bk prog w es kvs) (hx : kvs[i]? = some (k, v))
    (hQ : ∀ key h', isKey k key = true → IsItemIterOut h' it b (i + 1) kvs.length ep key v s.heap.objs.size → h'.get? s.heap.objs.size = some { cls := .type "tuple", data := .seq #[key, v] } →
      (∀ c o, c ≠ it → s.heap.get? c = some o → h'.get? c = some o) → Q (some (.ref s.heap.objs.size)) { s with heap := h' }) :
    wpAny (model prog w) A (pyNext (.ref it)) Q E s := by
  obtain ⟨h0, g, dr, tk, os⟩ := s
  have T0 : Shared.TypeIs ⟨h0, g, dr, tk, os⟩ (.ref it) "dict_itemiterator" := ⟨_, hi, rfl⟩
  have hin : i < kvs.length := by
    rcases Nat.lt_or_ge i kvs.length with q | q
    · exact q
    · rw [List.getElem?_eq_none q] at hx; cases hx
  have hie : i < es.size := by rw [I.size]; exact hin
  obtain ⟨ek, evl⟩ := I.pairs.get? (e := es[i]) (by simp [hie]) hx
  have own : Builtin.Dict_items.ownsTuple "dict_itemiterator" = true := by decide
  have ilt : it < h0.objs.size := Heap.lt_size hi
  unfold pyNext
  refine wpAny_bind (wpAny_attempt (wpAny_callSpecial?_slot (name := Str.ofString "__next__") T0 PySem.F.slot_dict_itemiterator_next (wpAny_call_entry PySem.F.slot_dict_itemiterator_next T0 PySem.F.entry_dict_itemiterator_next ?_ (PySem.F.args_dict_itemiterator_next_1 _))))
  refine wpAny_bind (wpAny_pure (wpAny_bind (wpAny_bind ?_)))
  refine wpAny_bind (wpAny_typeNameOfWhole_itemiter T0 (wpAny_pure (wpAny_bind (wpAny_fieldsOf hi rfl ?_))))
  simp only [own, if_true]
  show wpAny _ _ (if (Value.ref b == Value.none) = true then _ else _) _ _ _
  rw [if_neg (show ¬ ((Value.ref b == Value.none) = true) from Bool.false_ne_true)]
  refine wpAny_bind (wpAny_pure (wpAny_bind (wpAny_dictEntries hb rfl ?_)))
  rw [if_neg (by rw [I.size]; simp)]
  refine wpAny_bind (wpAny_pure (wpAny_bind (wpAny_dictEpoch hb rfl ?_)))
  rw [if_neg (by simp)]
  refine wpAny_pure ?_
  simp only [show ¬ ((i : Int) < 0) from by omega, if_false, Int.toNat_natCast, Array.getElem?_eq_getElem hie]
  refine wpAny_bind (wpAny_bind (wpAny_typeNameOfWhole_itemiter T0 (wpAny_pure (wpAny_bind (wpAny_isOneOf_itemiter T0 ?_)))))
  show wpAny _ _ (setField (.ref it) 3 (rawInt ((i : Int) + 1)) >>= _) _ _ ⟨h0, g, dr, tk, os⟩
  refine wpAny_bind (wpAny_setField_rec hi (by simp) fun h1 e1 s1 => ?_)
  have e1' : IsItemIter h1 it b (i + 1) kvs.length ep x y := by
    unfold IsItemIter
    rw [show ((i + 1 : Nat) : Int) = (i : Int) + 1 by omega]
    simpa [rawInt] using e1
  have s1' : Heap.SameBut it h0 h1 := s1
  have T1 : Shared.TypeIs ⟨h1, g, dr, tk, os⟩ (.ref it) "dict_itemiterator" := ⟨_, e1', rfl⟩
  refine wpAny_bind (wpAny_holding (wpAny_bind (wpAny_isOneOf_itemiter T1 (wpAny_bind (wpAny_isOneOf_itemiter T1 ?_)))))
  show wpAny _ _ (Builtin.Dict_items.pairFromOwner (.ref it) 6 es[i].key es[i].val) _ _ ⟨h1, g, dr, tk, os⟩
  unfold Builtin.Dict_items.pairFromOwner
  refine wpAny_bind (wpAny_newTuple ?_)
  have z1 : h1.objs.size = h0.objs.size := s1'.1
  have e2 : IsItemIter (h1.push { cls := .type "tuple", data := .seq #[es[i].key, es[i].val] }) it b (i + 1) kvs.length ep x y := Heap.get?_push_of_some _ e1'
  have t2 : (h1.push { cls := .type "tuple", data := .seq #[es[i].key, es[i].val] }).get? h0.objs.size = some { cls := .type "tuple", data := .seq #[es[i].key, es[i].val] } := by rw [← z1]; exact Heap.get?_push_size _ rfl
  have k2 : ∀ c o, c ≠ it → h0.get? c = some o → (h1.push { cls := .type "tuple", data := .seq #[es[i].key, es[i].val] }).get? c = some o := fun c o hc e => Heap.get?_push_of_some _ (s1'.extBut c o hc e)
  rw [show ([es[i].key, es[i].val] : List Value).toArray = #[es[i].key, es[i].val] from rfl] at *
  generalize h1.push { cls := .type "tuple", data := .seq #[es[i].key, es[i].val] } = h2 at *
  show wpAny _ _ (Builtin.Dict_items.ownedTupleIsFree (.ref it) >>= _) _ _ ⟨h2, g, dr, tk, os⟩
  rw [z1]
  unfold Builtin.Dict_items.ownedTupleIsFree
  refine wpAny_bind (wpAny_bind (wpAny_field e2 rfl (x := .none) rfl (wpAny_pure ?_)))
  simp only [if_true]
  refine wpAny_bind (wpAny_field e2 rfl (x := x) rfl (wpAny_bind (wpAny_field e2 rfl (x := y) rfl ?_)))
  refine wpAny_bind (wpAny_setField_rec e2 (by simp) fun h3 e3 s3 => ?_)
  have e3' : IsItemIter h3 it b (i + 1) kvs.length ep es[i].key y := e3
  refine wpAny_bind (wpAny_setField_rec e3' (by simp) fun h4 e4 s4 => ?_)
  have e4' : IsItemIter h4 it b (i + 1) kvs.length ep es[i].key es[i].val := e4
  refine wpAny_bind (wpAny_setField_rec e4' (by simp) fun h5 e5 s5 => ?_)
  have e5' : IsItemIterOut h5 it b (i + 1) kvs.length ep es[i].key es[i].val h0.objs.size := e5
  refine wpAny_bind (wpAny_setField_rec e5' (by simp) fun h6 e6 s6 => ?_)
  have e6' : IsItemIterOut h6 it b (i + 1) kvs.length ep es[i].key es[i].val h0.objs.size := e6
  have up : ∀ c o, c ≠ it → h2.get? c = some o → h6.get? c = some o := fun c o hc e => s6.extBut c o hc (s5.extBut c o hc (s4.extBut c o hc (s3.extBut c o hc e)))
  refine wpAny_bind (wpAny_letGo (wpAny_pure (wpAny_pure ⟨_, rfl, wpAny_pure (hQ es[i].key h6 ek (evl ▸ e6') ?_ fun c o hc e => up c o hc (k2 c o hc e))⟩)))
  rw [← evl]; exact up _ _ (Nat.ne_of_gt ilt) t2

theorem b_endItems {it : Addr} {x y : Value} {Q : Option Value → Shared → Prop} (hh : A.handled = none) (hi : IsItemIter s.heap it b kvs.length kvs.length ep x y) (hb : s.heap.get? b = some (bobj DD F es ep)) (I : Bk prog w es kvs)
    (hQ : ∀ h', Heap.ExtBut it s.heap h' → Q none { s with heap := h' }) : wpAny (model prog w) A (pyNext (.ref it)) Q E s := by
  have T0 : s.TypeIs (.ref it) "dict_itemiterator" := ⟨_, hi, rfl⟩
  have own : Builtin.Dict_items.ownsTuple "dict_itemiterator" = true := by decide
  unfold pyNext
  refine wpAny_bind (wpAny_attempt (wpAny_callSpecial?_slot (name := Str.ofString "__next__") T0 PySem.F.slot_dict_itemiterator_next (wpAny_call_entry PySem.F.slot_dict_itemiterator_next T0 PySem.F.entry_dict_itemiterator_next ?_ (PySem.F.args_dict_itemiterator_next_1 _))))
  refine wpAny_bind (wpAny_pure (wpAny_bind (wpAny_bind ?_)))
  refine wpAny_bind (wpAny_typeNameOfWhole_itemiter T0 (wpAny_pure (wpAny_bind (wpAny_fieldsOf hi rfl ?_))))
  simp only [own, if_true]
  show wpAny _ _ (if (Value.ref b == Value.none) = true then _ else _) _ _ _
  rw [if_neg (show ¬ ((Value.ref b == Value.none) = true) from Bool.false_ne_true)]
  refine wpAny_bind (wpAny_pure (wpAny_bind (wpAny_dictEntries hb rfl ?_)))
  rw [if_neg (by rw [I.size]; simp)]
  refine wpAny_bind (wpAny_pure (wpAny_bind (wpAny_dictEpoch hb rfl ?_)))
  rw [if_neg (by simp)]
  refine wpAny_pure ?_
  have hge : es.size ≤ kvs.length := by rw [I.size]; exact Nat.le_refl _
  simp only [show ¬ ((kvs.length : Int) < 0) from by omega, if_false, Int.toNat_natCast, Array.getElem?_eq_none hge]
  refine wpAny_bind (wpAny_bind (wpAny_typeNameOfWhole_itemiter T0 (wpAny_pure ?_)))
  show wpAny _ _ (setField (.ref it) 2 .none >>= _) _ _ s
  refine wpAny_bind (wpAny_setField hi rfl (by simp) ?_)
  show wpAny _ _ (newExc (.type "StopIteration") [] >>= _) _ _ _
  simp only [newExc, newTuple]
  refine wpAny_bind (wpAny_bind (wpAny_newObj_type ?_ (by size_fits)))
  refine wpAny_bind (m := firstArgMember _ _) (wpAny_of_eq (a := Value.none) (by first | rfl | (simp only [firstArgMember]; rfl)) ?_)
  refine wpAny_newObj_type ?_ (by size_fits)
  simp only [raiseNew]
  refine wpAny_bind (wpAny_handled ?_)
  rw [show A.in1.handled = none from hh]
  refine wpAny_bind (wpAny_pure (wpAny_throw ?_))
  refine wpAny_bind (wpAny_isInstance (T := "StopIteration") (b := true) ⟨_, Heap.get?_push_size _ rfl, rfl⟩ isSubtype_stop ?_)
  exact wpAny_pure (hQ _ (((Heap.SameBut.update ..).extBut.push _).push _))

theorem b_itemsTurns {elts : List Expr} {kk : Nat} {pos : Pos} (hh : A.handled = none) (J b : Addr) (hne : b ≠ J) (I : Bk prog w es kvs) :
    KTurns prog w A (.Tuple elts kk pos) J [J, b] [J] kvs.length
      (fun i v h => ∃ T key k x, v = .ref T ∧ kvs[i]? = some (k, x) ∧ isKey k key = true ∧ h.IsTuple T #[key, x])
      (fun i v h => ∃ T key k x p q, v = .ref T ∧ kvs[i]? = some (k, x) ∧ isKey k key = true ∧ h.IsTuple T #[key, x] ∧ IsItemIterOut h J b (i + 1) kvs.length ep p q T ∧ h.get? b = some (bobj DD F es ep) ∧ T ≠ J)
      (fun i h => (∃ p q, IsItemIter h J b i kvs.length ep p q) ∧ h.get? b = some (bobj DD F es ep)) where
  sub := fun c hc => by rw [List.mem_singleton.mp hc]; exact .head _
  frame := fun i h h' st k => by
    obtain ⟨⟨p, q, e⟩, hb⟩ := st
    exact ⟨⟨p, q, k _ (.head _) _ e⟩, k _ (.tail _ (.head _)) _ hb⟩
  item := fun i s Q E hi st hQ => by
    obtain ⟨⟨p, q, e⟩, hb⟩ := st
    refine b_nextItem e hb I (k := kvs[i].1) (v := kvs[i].2) (List.getElem?_eq_getElem hi) fun key h' hk ho hT hu => ?_
    exact hQ _ h' s.toks ⟨s.heap.objs.size, key, kvs[i].1, kvs[i].2, key, kvs[i].2, rfl, List.getElem?_eq_getElem hi, hk, ⟨_, hT, rfl, _, rfl⟩, ho, hu _ _ hne hb, Nat.ne_of_gt (Heap.lt_size e)⟩ fun c o hc e' => hu c o (fun z => hc (by rw [z]; exact .head _)) e'
  go := fun i v s Q E hm hQ => by
    obtain ⟨T, key, k, x, p, q, rfl, hx, hk, hT, ho, hb, hTJ⟩ := hm
    refine wpAny_letOwnedTupleGo_items ho fun h' e s1 => ?_
    exact hQ h' ⟨T, key, k, x, rfl, hx, hk, hT.at fun o e' => s1.extBut T o hTJ e'⟩ ⟨⟨p, q, e⟩, s1.extBut _ _ hne hb⟩ fun c o hc e' => s1.extBut c o (fun z => hc (by rw [z]; exact .head _)) e'
  done := fun s Q E st hQ => by
    obtain ⟨⟨p, q, e⟩, hb⟩ := st
    exact b_endItems hh e hb I fun h' hx => hQ h' s.toks fun c o hc e' => hx c o (fun z => hc (by rw [z]; exact .head _)) e'
end
end Mine
end

section
open PySem PySem.W PyProof.Rows PySem.Calls PyProof.Rows.LCg
set_option maxRecDepth 100000
set_option maxHeartbeats 8000000
namespace Mine
abbrev viewObj (b : Addr) : Obj := { cls := .type "dict_items", data := .fields #[.ref b] }
abbrev itObj (b : Addr) (n ep : Nat) : Obj := { cls := .type "dict_itemiterator", data := .fields #[.none, .bool false, .ref b, .int 0 0, .int n 0, .int ep 0, .none, .none] }
section
variable {prog : Program} {w : World} {A : Around} {E : Value → Shared → Prop} {s : Shared} {env : Env} {b DD : Addr} {F : Option Value} {es : Array DictEntry} {ep : Nat} {kvs : List (Key × Value)}
theorem items_comp {iter : Exp} {pa pb tp p1 p5 p6 pos : Pos} {kk : Nat} {Q : Value → Shared → Prop}
    (hh : A.handled = none) (hclos : closureFor sc2 env = pure [])
    (hit : ∀ (Q' : Value → Shared → Prop), Q' (.ref s.heap.objs.size) { s with heap := s.heap.push (viewObj b) } → wpAny (model prog w) A (eval iter env) Q' E s)
    (hb : s.heap.get? b = some (bobj DD F es ep)) (I : Bk prog w es kvs) (hsz : kvs.length ≤ 1000)
    (fin : ∀ D (nr : List Row) h tk, Kps s.heap h → h.get? D = some (lst (nr.map fun x : Row => Value.ref x.r)) → s.heap.get? D = none → nr.map (fun x => (x.key, x.th)) = kvs →
      (∀ x ∈ nr, h.get? x.r = some (rowObj x) ∧ s.heap.get? x.r = none ∧ x.r ≠ D ∧ isKey x.key x.kv = true) → Q (.ref D) { s with heap := h, toks := tk })
    (hs : ∀ x, foldedSetIterable iter env x = pure x := by intro _; rfl) :
    wpAny (model prog w) A (eval (.ListComp (.List [.Name "key" p1, .Name "thing" p5] p6) [⟨.Tuple [.Name "key" pa, .Name "thing" pb] kk tp, iter, [], 0⟩] sc2 pos) env) Q E s := by
  rw [eval_ListComp]
  refine wpAny_comprehension_free (use := none) rfl hs hclos rfl (by decide) (hit _ ?_)
  have hv : (s.heap.push (viewObj b)).IsItemsView s.heap.objs.size b := ⟨_, Heap.get?_push_size _ rfl, rfl, rfl⟩
  have hb1 : (s.heap.push (viewObj b)).get? b = some (bobj DD F es ep) := Heap.get?_push_of_some _ hb
  refine b_iterItems (s := { s with heap := s.heap.push (viewObj b) }) hv hb1 I ?_
  have up1 : Kps s.heap (s.heap.push (viewObj b)) := fun c o e => Heap.get?_push_of_some _ e
  have z1 : (s.heap.push (viewObj b)).objs.size = s.heap.objs.size + 1 := by rw [Heap.size_push]
  have blt : b < s.heap.objs.size := Heap.lt_size hb
  dsimp only
  generalize s.heap.push (viewObj b) = H1 at *
  have up : Kps s.heap (H1.push (itObj b kvs.length ep)) := fun c o e => Heap.get?_push_of_some _ (up1 c o e)
  have hne : b ≠ H1.objs.size := by rw [z1]; exact Nat.ne_of_lt (Nat.lt_succ_of_lt blt)
  have U : ∀ h : Heap, Ups (H1.push (itObj b kvs.length ep)) H1.objs.size h → Kps s.heap h := fun h u c o e => u c o (by rw [z1]; exact Nat.ne_of_lt (Nat.lt_succ_of_lt (Heap.lt_size e))) (up c o e)
  refine comp_n_block (Bd := fun i m' => ∃ key k x, kvs[i]? = some (k, x) ∧ isKey k key = true ∧ m' "key" = some key ∧ m' "thing" = some x)
    (J := fun i ys objs => ∃ nr : List Row, ys = (nr.map fun x : Row => Value.ref x.r) ∧ nr.map (fun x => (x.key, x.th)) = kvs.take i ∧ ∀ x ∈ nr, (x.r, rowObj x) ∈ objs ∧ isKey x.key x.kv = true)
    (b_itemsTurns (F := F) (DD := DD) (es := es) (ep := ep) hh H1.objs.size b hne I) (Nat.le_trans hsz (by decide)) (fun {i h} st q => ?_) (fun c hc => ?_) ⟨⟨_, _, Heap.get?_push_size _ rfl⟩, Heap.get?_push_of_some _ hb1⟩
    (fun s' Q' E' st q => ?_) (by decide) rfl ?_ ⟨[], rfl, rfl, fun _ hp => nomatch hp⟩ ?_ ?_
  · obtain ⟨⟨p, q', e⟩, _⟩ := st
    rw [IsItemIter, q] at e; cases e
  · show c < (H1.push _).objs.size
    rw [Heap.size_push]
    rcases List.mem_cons.mp hc with rfl | hc
    · exact Nat.lt_succ_self _
    · rw [List.mem_singleton.mp hc, z1]; exact Nat.lt_succ_of_lt (Nat.lt_succ_of_lt blt)
  · obtain ⟨⟨p, q', e⟩, _⟩ := st
    exact kcp_self e q
  · intro i v h tk C m₀ Q' E' hv hn u hQ
    obtain ⟨T, key, k, x, rfl, hx, hk, hT⟩ := hv
    refine asg_two (x := key) (y := x) (fun Q'' hq => wpAny_unpackItems_tuple (items := #[key, x]) hh hT hq) (lookup_relabel_local (x := "key") rfl) (lookup_relabel_local (x := "thing") rfl) (by simp [compEnvC, relabel]) hn fun h' tk' hn' hk' => ?_
    exact hQ h' tk' _ hn' ⟨key, k, x, hx, hk, by simp [show ¬ (("key" : Str) = "thing") from by decide], by simp⟩ hk'
  · intro i h tk C m' ys objs E' hi hB hJ hn u _
    obtain ⟨key, k, x, hx, hk, hm1, hm2⟩ := hB
    obtain ⟨nr, rfl, hnr, hno⟩ := hJ
    refine list_two (loc_name (lookup_relabel_local (x := "key") rfl) hn hm1 (loc_name (lookup_relabel_local (x := "thing") rfl) hn hm2 ?_))
    refine ⟨_, tk, [(h.objs.size, rowObj ⟨k, key, x, h.objs.size⟩)], rfl, fun c o e => Heap.get?_push_of_some _ e, ?_, nr ++ [⟨k, key, x, h.objs.size⟩], by simp, ?_, ?_⟩
    · intro p hp
      rw [List.mem_singleton.mp hp]
      refine ⟨Heap.get?_push_size _ rfl, ?_⟩
      cases e : h.get? h.objs.size with
      | none => rfl
      | some o => exact absurd (Heap.lt_size e) (Nat.lt_irrefl _)
    · rw [List.map_append, hnr, List.take_add_one, hx]; rfl
    · intro y hy
      rcases List.mem_append.mp hy with hy | hy
      · exact ⟨List.mem_append_right _ (hno y hy).1, (hno y hy).2⟩
      · rw [List.mem_singleton.mp hy]; exact ⟨.head _, hk⟩
  · intro D C h tk m' ys objs u hn hCD hD hD₀ hC₀ ho hJ hlen
    obtain ⟨nr, rfl, hnr, hno⟩ := hJ
    refine ⟨m', hn, fun h'' hs'' => ?_⟩
    have nd : ∀ c, (H1.push (itObj b kvs.length ep)).get? c = none → s.heap.get? c = none := fun c e => by
      cases q : s.heap.get? c with
      | none => rfl
      | some o => rw [up c o q] at e; cases e
    rw [List.take_length] at hnr
    exact fin D nr h'' tk (fun c o e => hs''.extBut c o (fun q => by rw [q, nd _ hC₀] at e; cases e) (U h u c o e)) (hs''.extBut _ _ (Ne.symm hCD) hD) (nd _ hD₀) hnr fun x hx => by
      obtain ⟨e1, e2, e3, e4⟩ := ho _ (hno x hx).1
      exact ⟨hs''.extBut _ _ e3 e1, nd _ e2, e4, (hno x hx).2⟩
end
end Mine
end

section
open PySem PySem.W PyProof.Rows PySem.Calls PyProof.Rows.LCg
set_option maxRecDepth 100000
set_option maxHeartbeats 2000000
namespace Mine
abbrev rowsL (rows : List Row) : List (Addr × Obj) := rows.map fun x => (x.r, rowObj x)
abbrev kvsOf (rows : List Row) : List (Key × Value) := rows.map fun x => (x.key, x.th)
theorem row_some {rows : List Row} {k : Key} {v : Value} (hv : valueAt (kvsOf rows) k = some v) : ∃ x ∈ rows, x.key = k ∧ x.th = v := by
  unfold valueAt at hv
  obtain ⟨q, hq, rfl⟩ := Option.map_eq_some_iff.mp hv
  have h1 := List.mem_of_find?_eq_some hq
  have h2 := List.find?_some (p := fun kv : Key × Value => decide (kv.1 = k)) hq
  obtain ⟨x, hx, rfl⟩ := List.mem_map.mp h1
  exact ⟨x, hx, of_decide_eq_true h2, rfl⟩
theorem filt_none {rows : List Row} {k : Key} (hv : valueAt (kvsOf rows) k = none) : (rows.filter fun x => decide (x.key = k)) = [] := by
  rw [List.filter_eq_nil_iff]
  intro x hx q
  exact not_mem_of_none hv (List.mem_map.mpr ⟨(x.key, x.th), List.mem_map.mpr ⟨x, hx, rfl⟩, of_decide_eq_true q⟩)
theorem filt_some {rows : List Row} {k : Key} {v : Value} (hn : ((kvsOf rows).map (·.1)).Nodup) (hv : valueAt (kvsOf rows) k = some v) : (rows.filter fun x => decide (x.key = k)).map (·.th) = [v] := by
  induction rows with
  | nil => cases hv
  | cons x rows ih =>
    simp only [kvsOf, List.map_cons, List.nodup_cons] at hn
    by_cases q : x.key = k
    · have hv' : x.th = v := by simpa [valueAt, kvsOf, q] using hv
      have : (rows.filter fun x => decide (x.key = k)) = [] := by
        rw [List.filter_eq_nil_iff]
        intro y hy e
        refine hn.1 (List.mem_map.mpr ⟨(y.key, y.th), List.mem_map.mpr ⟨y, hy, rfl⟩, ?_⟩)
        rw [q]; exact of_decide_eq_true e
      simp [q, this, hv']
    · have hv' : valueAt (kvsOf rows) k = some v := by simpa [valueAt, kvsOf, q] using hv
      simpa [q] using ih hn.2 hv'
theorem without_rows {rows nr : List Row} {k : Key} (h : nr.map trip = (rows.filter fun x => !decide (x.key = k)).map trip) : kvsOf nr = without (kvsOf rows) k := by
  have := congrArg (List.map fun t : Key × Value × Value => (t.1, t.2.2)) h
  simp only [List.map_map] at this
  have e1 : kvsOf nr = List.map ((fun t : Key × Value × Value => (t.1, t.2.2)) ∘ trip) nr := by simp [kvsOf, Function.comp_def]
  rw [e1, this, without, kvsOf, List.filter_map]
  simp [Function.comp_def]
theorem stored_rows {rows nr : List Row} {k : Key} {v hand : Value} (hv : valueAt (kvsOf rows) k = some v) (h : nr.map trip = rows.map fun x => (x.key, x.kv, if x.key = k then hand else x.th)) : kvsOf nr = stored (kvsOf rows) k hand := by
  have := congrArg (List.map fun t : Key × Value × Value => (t.1, t.2.2)) h
  simp only [List.map_map] at this
  have e1 : kvsOf nr = List.map ((fun t : Key × Value × Value => (t.1, t.2.2)) ∘ trip) nr := by simp [kvsOf, Function.comp_def]
  rw [e1, this, stored, if_pos (any_of_value hv), kvsOf, List.map_map]
  apply List.map_congr_left
  intro x _
  simp only [Function.comp]
  by_cases q : x.key = k <;> simp [q]
theorem stored_new {rows : List Row} {k : Key} {hand : Value} (hv : valueAt (kvsOf rows) k = none) : stored (kvsOf rows) k hand = kvsOf rows ++ [(k, hand)] := by rw [stored, if_neg (not_any_of_none hv)]
theorem trip_mem {nr rows : List Row} {f : Row → Key × Value × Value} (h : nr.map trip = rows.map f) : ∀ x ∈ nr, ∃ y ∈ rows, trip x = f y := fun x hx => by
  have : trip x ∈ rows.map f := h ▸ List.mem_map_of_mem hx
  obtain ⟨y, hy, e⟩ := List.mem_map.mp this
  exact ⟨y, hy, e.symm⟩
theorem rows_at {h : Heap} {rows : List Row} (hg : ∀ x ∈ rows, h.get? x.r = some (rowObj x)) (hk : ∀ x ∈ rows, isKey x.key x.kv = true) : RowsAt h rows := fun x hx => ⟨⟨_, hg x hx, rfl, _, rfl⟩, hk x hx⟩
theorem fr_upd {h₀ h h' : Heap} {L : Addr} {m m' : Str → Option Value} (F : Fr h₀ L h m) (hn : h'.Ns L m') (k : ∀ c o, c ≠ L → h.get? c = some o → h'.get? c = some o) : Fr h₀ L h' m' :=
  ⟨hn, fun c o e => k c o (Nat.ne_of_lt (Nat.lt_of_lt_of_le (Heap.lt_size e) F.above)) (F.keep c o e), F.above⟩
theorem add_new {h₀ h h' : Heap} {L D : Addr} {m : Str → Option Value} {o : Obj} {news : List (Addr × Obj)} (F : Fr h₀ L h m) (N : News h₀ L h news) (k : ∀ c o, c ≠ L → h.get? c = some o → h'.get? c = some o) (e : h'.get? D = some o) (e0 : h.get? D = none) : News h₀ L h' ((D, o) :: news) := fun p hp => by
  rcases List.mem_cons.mp hp with rfl | hp
  · refine ⟨e, ?_, ?_⟩
    · rintro rfl
      obtain ⟨o, _, _, hL, _⟩ := F.ns
      rw [e0] at hL; cases hL
    · cases q : h₀.get? D with
      | none => rfl
      | some o => rw [F.keep _ _ q] at e0; cases e0
  · exact ⟨k _ _ (N p hp).2.1 (N p hp).1, (N p hp).2⟩
theorem add_rows {h₀ h h' : Heap} {L D : Addr} {m : Str → Option Value} {news : List (Addr × Obj)} {nr : List Row} (F : Fr h₀ L h m) (N : News h₀ L h news) (k : ∀ c o, c ≠ L → h.get? c = some o → h'.get? c = some o) (hn : ∀ x ∈ nr, h'.get? x.r = some (rowObj x) ∧ h.get? x.r = none ∧ x.r ≠ D) : News h₀ L h' (news ++ rowsL nr) := fun p hp => by
  rcases List.mem_append.mp hp with hp | hp
  · exact ⟨k _ _ (N p hp).2.1 (N p hp).1, (N p hp).2⟩
  · obtain ⟨x, hx, rfl⟩ := List.mem_map.mp hp
    exact add_new F N k (hn x hx).1 (hn x hx).2.1 _ (.head _)
theorem add_tab {h₀ h h' : Heap} {L D : Addr} {m : Str → Option Value} {o : Obj} {news : List (Addr × Obj)} {nr : List Row} (F : Fr h₀ L h m) (N : News h₀ L h news) (k : ∀ c o, c ≠ L → h.get? c = some o → h'.get? c = some o) (e : h'.get? D = some o) (e0 : h.get? D = none)
    (hn : ∀ x ∈ nr, h'.get? x.r = some (rowObj x) ∧ h.get? x.r = none ∧ x.r ≠ D) : News h₀ L h' ((D, o) :: (news ++ rowsL nr)) := fun p hp => by
  rcases List.mem_cons.mp hp with rfl | hp
  · exact add_new F N k e e0 _ (.head _)
  · exact add_rows F N k hn p hp
theorem new_ne {h₀ h : Heap} {L D : Addr} {news : List (Addr × Obj)} (N : News h₀ L h news) (e0 : h.get? D = none) : ∀ p ∈ news, p.1 ≠ D := fun p hp q => by
  have := (N p hp).1
  rw [q, e0] at this; cases this
end Mine
end

section
open PySem PySem.W PyProof.Rows PySem.Calls
set_option maxRecDepth 100000
set_option maxHeartbeats 2000000
namespace Mine
def FzOk (fzL : List (Addr × Obj)) (fz : Fz) (tb : Option Addr) (b : Addr) : Prop := ∀ h : Heap, (∀ p ∈ fzL, h.get? p.1 = some p.2) → (∀ hh u fl, fz = some (hh, u, fl) → Frz h fl b) ∧ (∀ c, tb = some c → h.CodeRec (.ref c) fzQual)
def keyAt (i : Int) : Key := match ((i.fdiv 8).fmod 5).toNat with | 0 => .inl "a" | 1 => .inl "b" | 2 => .inr 0 | 3 => .inr 1 | _ => .inr 2
theorem key_range (i : Int) : 0 ≤ (i.fdiv 8).fmod 5 ∧ (i.fdiv 8).fmod 5 < 5 := ⟨Int.fmod_nonneg_of_pos _ (by decide), Int.fmod_lt_of_pos _ (by decide)⟩
theorem key_at (i : Int) (t0 t1 t2 t3 t4 : Tok) : ∃ v, (#[Value.str "a" t0, .str "b" t1, .int 0 t2, .int 1 t3, .int 2 t4] : Array Value)[((i.fdiv 8).fmod 5).toNat]? = some v ∧ isKey (keyAt i) v = true := by
  obtain ⟨h0, h5⟩ := key_range i
  have : ((i.fdiv 8).fmod 5).toNat < 5 := by omega
  unfold keyAt
  generalize ((i.fdiv 8).fmod 5).toNat = j at *
  match j, this with
  | 0, _ => exact ⟨_, rfl, by first | rfl | simp [isKey, Value.isStrOf, Value.isInt]⟩
  | 1, _ => exact ⟨_, rfl, by first | rfl | simp [isKey, Value.isStrOf, Value.isInt]⟩
  | 2, _ => exact ⟨_, rfl, by first | rfl | simp [isKey, Value.isStrOf, Value.isInt]⟩
  | 3, _ => exact ⟨_, rfl, by first | rfl | simp [isKey, Value.isStrOf, Value.isInt]⟩
  | 4, _ => exact ⟨_, rfl, by first | rfl | simp [isKey, Value.isStrOf, Value.isInt]⟩
theorem item_at {prog : Program} {w : World} {A : Around} {E : Value → Shared → Prop} {s : Shared} {value slice : Expr} {l : Addr} {its : Array Value} {j : Int} {x : Value} {u : Tok} {Q : Value → Shared → Prop} (hl : s.heap.IsList l its) (h0 : 0 ≤ j) (h9 : j < 2 ^ 63) (hx : its[j.toNat]? = some x) (h : Q x s)
    (hs : subscripted slice false (.ref l) (.int j u) = operate [.ref l, .int j u] (getItem (.ref l) (.int j u)) := by with_unfolding_all rfl) :
    wpAny (model prog w) A (subscriptTail value slice (.ref l) (.int j u)) Q E s :=
  tail_any hl.typeIs slot_list_getitem.lookup (wpAny_getItem_list hl h0 h9 hx h) hs
end Mine
end

section
open PySem PySem.W PyProof.Rows PySem.Calls
set_option maxRecDepth 100000
set_option maxHeartbeats 2000000
namespace Mine
theorem fk_fill2 (P : Params) : PySem.Challenge.rw_il0026_01 = PySem.Challenge.rw_il0026_01 → findIn (hd.heap_39 P) (.ref 58) "freeze" = some (some (.ref 55)) := by k_fill; intro _; k_is
theorem fk_freeze (P : Params) : findIn (hd.heap_39 P) (.ref 58) "freeze" = some (some (.ref 55)) := by k_is
theorem fk_freeze_t (P : Params) : typeIn (hd.heap_39 P) (.ref 55) = some (.type "function") := by k_is
theorem tm_pop : typeOf (.builtin "dict.pop") = pure (.type "method_descriptor") := by kernel_rfl
theorem tm_get : typeOf (.builtin "dict.get") = pure (.type "method_descriptor") := by kernel_rfl
theorem tm_setdefault : typeOf (.builtin "dict.setdefault") = pure (.type "method_descriptor") := by kernel_rfl
theorem tm_items : typeOf (.builtin "dict.items") = pure (.type "method_descriptor") := by kernel_rfl
theorem dl_pop {fz : Fz} {n : Nat} : lookIn "pop" (ddo fz n) = some none := by rcases fz with _ | ⟨hh, u, fl⟩ <;> rfl
theorem dl_get {fz : Fz} {n : Nat} : lookIn "get" (ddo fz n) = some none := by rcases fz with _ | ⟨hh, u, fl⟩ <;> rfl
theorem dl_setdefault {fz : Fz} {n : Nat} : lookIn "setdefault" (ddo fz n) = some none := by rcases fz with _ | ⟨hh, u, fl⟩ <;> rfl
theorem dl_items {fz : Fz} {n : Nat} : lookIn "items" (ddo fz n) = some none := by rcases fz with _ | ⟨hh, u, fl⟩ <;> rfl
theorem dl_freeze {fz : Fz} {n : Nat} : lookIn "freeze" (ddo fz n) = some none := by rcases fz with _ | ⟨hh, u, fl⟩ <;> rfl
section
variable {prog : Program} {w : World} {A : Around} {E : Value → Shared → Prop} {s : Shared} {b DD : Addr} {F : Option Value} {es : Array DictEntry} {ep : Nat}
theorem b_methodF {f : Addr} {name : Str} {pl : Sem Bool} {od : Obj} {Q : Value × List Value → Shared → Prop} (X : (hd.heap_39 w.params).In s.heap) (hb : s.heap.get? b = some (bobj DD F es ep)) (hod : s.heap.get? DD = some od)
    (hf : findIn (hd.heap_39 w.params) (.ref 58) name = some (some (.ref f))) (ht : typeIn (hd.heap_39 w.params) (.ref f) = some (.type "function")) (hs : lookIn name od = some none) (h : Q (.ref f, [.ref b]) s) :
    wpAny (model prog w) A (getMethod (.ref b) name pl) Q E s := by
  unfold getMethod specialOf
  refine wpAny_bind (wpAny_bind ((b_type hb).here ((looks_findIn X (fk_ga _)).here ?_)))
  dsimp only
  rw [if_neg (by decide +kernel)]
  refine wpAny_bind (wpAny_bind ((b_type hb).here ((looks_findIn X (fk_gattr _)).here ?_)))
  refine wpAny_bind (wpAny_bind ((b_type hb).here ((looks_findIn X hf).here (wpAny_bind ((looks_typeIn X ht).here ?_)))))
  rw [if_neg (by decide +kernel)]
  refine wpAny_bind (wpAny_loadPart hb ?_)
  refine wpAny_bind (wpAny_bind (wpAny_loadPart hod ?_))
  rw [nsLook_of hs]
  exact wpAny_pure (wpAny_bind (wpAny_rule (wpAny_pure h)))
end
theorem news_front {h₀ h : Heap} {L : Addr} {pre rest : List (Addr × Obj)} {x y : Addr × Obj} (N : News h₀ L h (pre ++ x :: y :: rest)) : News h₀ L h (x :: y :: (pre ++ rest)) := fun p hp => N p (by
  rcases List.mem_cons.mp hp with rfl | hp
  · exact List.mem_append_right _ (.head _)
  rcases List.mem_cons.mp hp with rfl | hp
  · exact List.mem_append_right _ (.tail _ (.head _))
  rcases List.mem_append.mp hp with hp | hp
  · exact List.mem_append_left _ hp
  · exact List.mem_append_right _ (.tail _ (.tail _ hp)))
theorem news_sub {h₀ h : Heap} {L : Addr} {l l' : List (Addr × Obj)} (N : News h₀ L h l) (hs : ∀ p ∈ l', p ∈ l) : News h₀ L h l' := fun p hp => N p (hs p hp)
theorem news_app {h₀ h : Heap} {L : Addr} {l l' : List (Addr × Obj)} (N : News h₀ L h l) (N' : News h₀ L h l') : News h₀ L h (l ++ l') := fun p hp => by
  rcases List.mem_append.mp hp with hp | hp
  · exact N p hp
  · exact N' p hp

theorem tab_add {prog : Program} {w : World} {A : Around} {E : Value → Shared → Prop} {s : Shared} {h₀ : Heap} {L tT b2 : Addr} {m : Str → Option Value} {news : List (Addr × Obj)} {rows : List Row} {Q : Value → Shared → Prop} (x : Row) (F : Fr h₀ L s.heap m) (N : News h₀ L s.heap news)
    (ha : s.heap.IsList tT (tabIts rows)) (hb : s.heap.IsList b2 #[Value.ref x.r]) (hz : rows.length ≤ 500)
    (h : ∀ D h', Fr h₀ L h' m → News h₀ L h' ((D, W.listOf (tabIts (rows ++ [x])) 0) :: news) → (∀ p ∈ news, p.1 < D) → Q (.ref D) { s with heap := h' }) : wpAny (model prog w) A (binaryOp .Add (.ref tT) (.ref b2)) Q E s :=
  kmk_add_lit (zs := (rows ++ [x]).map fun x => Value.ref x.r) F N ha hb (by simp) (fun D h' F' N' l => h D h' F' N' l) (by simp [sizeLine_eq]; omega)
theorem fm5n {n : Nat} : (n : Int).fmod 5 = ((n % 5 : Nat) : Int) := by rw [Int.fmod_eq_emod_of_nonneg _ (by decide)]; omega
theorem front4 {pre : List (Addr × Obj)} {M b DD D : Addr} {o1 o2 o3 o4 : Obj} (h : ∀ p ∈ pre ++ [(M, o1), (b, o2), (DD, o3), (50, o4)], p.1 ≠ D) : D ∉ [M, b, DD, 50] := fun hm => by
  have g := fun p hp => h p (List.mem_append_right pre hp)
  rcases List.mem_cons.mp hm with e | hm
  · exact g _ (.head _) e.symm
  rcases List.mem_cons.mp hm with e | hm
  · exact g _ (.tail _ (.head _)) e.symm
  rcases List.mem_cons.mp hm with e | hm
  · exact g _ (.tail _ (.tail _ (.head _))) e.symm
  rcases List.mem_cons.mp hm with e | hm
  · exact g _ (.tail _ (.tail _ (.tail _ (.head _)))) e.symm
  · cases hm
theorem four_ne {M b DD D : Addr} (h : D ∉ [M, b, DD, 50]) : D ≠ M ∧ D ≠ b ∧ D ≠ DD ∧ D ≠ 50 := by
  refine ⟨?_, ?_, ?_, ?_⟩ <;> intro e <;> apply h <;> simp [e]
theorem ne_four {M b DD D : Addr} (h1 : D ≠ M) (h2 : D ≠ b) (h3 : D ≠ DD) (h4 : D ≠ 50) : D ∉ [M, b, DD, 50] := by
  intro e; simp at e; rcases e with e | e | e | e <;> contradiction
section
variable {prog : Program} {w : World} {A : Around} {E : Value → Shared → Prop} {s : Shared} {l b : Addr} {v : Value} {Q : Value → Shared → Prop}
theorem ne_nil (hl : s.heap.IsList l #[]) (hb : s.heap.IsList b #[]) (hu : A.units < cLine) (h : Q (.bool false) s) : wpAny (model prog w) A (compareOp .NotEq (.ref l) (.ref b)) Q E s :=
  SeqAt.RcNeAt.lists (e := fun _ => true) hl hb rfl hu (fun j h => absurd h (Nat.not_lt_zero j)) prog w E Q h
theorem ne_one (hl : s.heap.IsList l #[v]) (hb : s.heap.IsList b #[]) (hu : A.units < cLine) (h : Q (.bool true) s) : wpAny (model prog w) A (compareOp .NotEq (.ref l) (.ref b)) Q E s :=
  SeqAt.RcNeAt.lists_lengths hl hb rfl hu prog w E Q h
end
theorem b_in {prog : Program} {w : World} {A : Around} {E : Value → Shared → Prop} {s : Shared} {b DD : Addr} {F : Option Value} {es : Array DictEntry} {ep : Nat} {kvs : List (Key × Value)} {k : Key} {key : Value} {Q : Value → Shared → Prop} (X : (hd.heap_39 w.params).In s.heap) (hb : s.heap.get? b = some (bobj DD F es ep)) (I : Bk prog w es kvs) (hkey : isKey k key = true) (hne : (b == sysModules) = false)
    (h : Q (.bool (valueAt kvs k).isSome) { s with toks := s.toks + 1 }) : wpAny (model prog w) A (compareOp .In key (.ref b)) Q E s := by
  show wpAny _ _ (contains (.ref b) key >>= fun c => pure (Value.bool c)) _ _ _
  exact wpAny_bind (b_contains X hb I hkey hne (wpAny_pure h))
section
variable {h₀ h : Heap} {L : Addr} {pre rest more : List (Addr × Obj)} {x y z w r : Addr × Obj}
theorem news_front1 (N : News h₀ L h (pre ++ x :: rest)) : News h₀ L h (x :: (pre ++ rest)) := fun p hp => N p (by
  rcases List.mem_cons.mp hp with rfl | hp
  · exact List.mem_append_right _ (.head _)
  rcases List.mem_append.mp hp with hp | hp
  · exact List.mem_append_left _ hp
  · exact List.mem_append_right _ (.tail _ hp))
theorem news_more (N : News h₀ L h (x :: y :: z :: (more ++ [w]))) : News h₀ L h (w :: x :: y :: z :: more) := fun p hp => N p (by
  simp only [List.mem_cons, List.mem_append] at hp ⊢
  rcases hp with h | h | h | h | h <;> simp [h])
theorem news_end (N : News h₀ L h (r :: w :: x :: y :: z :: more)) : News h₀ L h (w :: z :: y :: x :: r :: more) := fun p hp => N p (by
  simp only [List.mem_cons] at hp ⊢
  rcases hp with h | h | h | h | h | h <;> simp [h])
end
abbrev Old (tT : Addr) (tn : Nat) (rows : List Row) (fzL : List (Addr × Obj)) : List (Addr × Obj) := (tT, W.listOf (tabIts rows) tn) :: (rowsL rows ++ fzL)
def Keep4 (s : Shared) (outer : List Env) (L M b DD : Addr) (h' : Heap) : Prop := ∀ a o, s.heap.get? a = some o → a ∉ [M, b, DD, 50] → a ≠ L → a ∉ outer.filterMap (·.frame) → h'.get? a = some o

def StepOk (prog : Program) (w : World) (A₀ : Around) (base : Heap) (outer : List Env) (h₀ : Heap) (L : Addr) (m : Str → Option Value) (s : Shared) (M b DD Fa tT : Addr) (tn : Nat) (rows : List Row) (fzL : List (Addr × Obj)) (vs : List Value) (i : Int) (R : Result → Shared → Prop) : Prop :=
  ∀ (r T' : Addr) (rn tn' : Nat) (rows' : List Row) (vs' : List Value) (n' : Nat) (es' : Array DictEntry) (ep' : Nat) (fz' : Fz) (dn' : Nat) (tb' : Option Addr) (fzL' : List (Addr × Obj)) (h' : Heap) (tk : Nat) (h₀' : Heap),
    KtsTurn (outer.filterMap (·.frame)) h₀ h₀' → Fr h₀' L h' m → Below A₀ base outer h₀' → KtsDicts (outer.filterMap (·.frame)) h₀' →
    News h₀' L h' ((M, W.listOf vs'.toArray n') :: (b, bobj DD (some (.ref Fa)) es' ep') :: (DD, ddo fz' dn') :: (50, tabObj (tabOf tb')) :: (r, W.listOf #[.bool true, .ref T', .bool fz'.isSome] rn) :: Old T' tn' rows' fzL') →
    Keep4 s outer L M b DD h' → (∀ q ∈ (r, W.listOf #[.bool true, .ref T', .bool fz'.isSome] rn) :: Old T' tn' rows' fzL', q.1 ∉ [M, b, DD, 50]) → (∀ q ∈ (r, W.listOf #[.bool true, .ref T', .bool fz'.isSome] rn) :: Old T' tn' rows' fzL', s.heap.get? q.1 = none ∨ q ∈ Old tT tn rows fzL) →
    FzOk fzL' fz' tb' b → Bk prog w es' (kvsOf rows') → (∀ x ∈ rows', isKey x.key x.kv = true) → (∀ x ∈ rows', ∃ a, x.th = .ref a) → rows'.length ≤ rows.length + 1 → vs'.length ≤ vs.length + 1 → (2 < i.fmod 8 → vs' = vs) → R (.ok (.ret (.ref r))) { s with heap := h', toks := tk }

theorem keep4_of {s : Shared} {outer : List Env} {env : Env} {L L' M b DD : Addr} {g g' h' : Heap} {m' : Str → Option Value} {o1 o2 o3 o4 : Obj} (hfr : env.frame = some L)
    (kg : ∀ a o, s.heap.get? a = some o → a ∉ List.map (fun x => x.1) [(M, o1), (b, o2), (DD, o3), (50, o4)] → g.get? a = some o) (KT : KtsTurn ((env :: outer).filterMap (·.frame)) g g') (F : Fr g' L' h' m') : Keep4 s outer L M b DD h' := fun a o e h1 h2 h3 =>
  F.keep _ _ (KT.other a o (kg a o e h1) fun q => by
    rcases gmem hfr q with z | z
    · exact h2 z
    · exact h3 z)

theorem keep4_news {s : Shared} {outer : List Env} {h₀ h₀' h' : Heap} {L M b DD : Addr} {l : List (Addr × Obj)} (D : KtsDicts (outer.filterMap (·.frame)) h₀) (N : News h₀ L s.heap l) (hd : ∀ q ∈ l, q.1 ∉ [M, b, DD, 50]) (KT : KtsTurn (outer.filterMap (·.frame)) h₀ h₀') (K : Keep4 s outer L M b DD h') : News h₀' L h' l := fun p hp => by
  obtain ⟨e1, e2, e3⟩ := N p hp
  refine ⟨K _ _ e1 (hd p hp) e2 (fun q => ?_), e2, KT.none_ _ e3⟩
  obtain ⟨o, _, _, e, _⟩ := D _ q
  rw [e3] at e; cases e
theorem none_s {s : Shared} {M b DD : Addr} {g : Heap} {o1 o2 o3 o4 : Obj} {x : Addr}
    (kg : ∀ a o, s.heap.get? a = some o → a ∉ List.map (fun x => x.1) [(M, o1), (b, o2), (DD, o3), (50, o4)] → g.get? a = some o) (hx : x ∉ [M, b, DD, 50]) (e : g.get? x = none) : s.heap.get? x = none := by
  cases q : s.heap.get? x with
  | none => rfl
  | some o => rw [kg _ _ q hx] at e; cases e

theorem step_same {prog : Program} {w : World} {A₀ : Around} {base : Heap} {outer : List Env} {env : Env} {h₀ g g' h' : Heap} {L L' : Addr} {m m' : Str → Option Value} {s : Shared} {M b DD Fa tT : Addr} {tn rn : Nat} {rows : List Row} {fzL : List (Addr × Obj)} {vs vs' : List Value} {i : Int} {R : Result → Shared → Prop}
  {o1 o2 o3 o4 : Obj} {r : Addr} {n' : Nat} {es' : Array DictEntry} {ep' dn' : Nat} {fz' : Fz} {tb' : Option Addr} {more : List (Addr × Obj)} {tk : Nat} (hfr : env.frame = some L) (D : KtsDicts (outer.filterMap (·.frame)) h₀)
  (NR : News h₀ L s.heap (Old tT tn rows fzL)) (hdis : ∀ q ∈ Old tT tn rows fzL, q.1 ∉ [M, b, DD, 50])
  (kg : ∀ a o, s.heap.get? a = some o → a ∉ List.map (fun x => x.1) [(M, o1), (b, o2), (DD, o3), (50, o4)] → g.get? a = some o)
  (hok : StepOk prog w A₀ base outer h₀ L m s M b DD Fa tT tn rows fzL vs i R)
  (KT : KtsTurn ((env :: outer).filterMap (·.frame)) g g') (F : Fr g' L' h' m')
  (N : News g' L' h' ((M, W.listOf vs'.toArray n') :: (b, bobj DD (some (.ref Fa)) es' ep') :: (DD, ddo fz' dn') :: (50, tabObj (tabOf tb')) :: (r, W.listOf #[.bool true, .ref tT, .bool fz'.isSome] rn) :: more))
  (hne : ∀ q ∈ (r, W.listOf #[.bool true, .ref tT, .bool fz'.isSome] rn) :: more, q.1 ∉ [M, b, DD, 50])
  (Z : FzOk (more ++ fzL) fz' tb' b) (I : Bk prog w es' (kvsOf rows)) (hk : ∀ x ∈ rows, isKey x.key x.kv = true) (hr : ∀ x ∈ rows, ∃ a, x.th = .ref a) (hv : vs'.length ≤ vs.length + 1) (hs : 2 < i.fmod 8 → vs' = vs) :
  LeaveG A₀ base outer env h₀ L m g R (.ref r) { s with heap := h', toks := tk } := by
  have K4 := keep4_of hfr kg KT F
  refine ⟨g', L', m', _, KT, F, N, fun h₀' t' kF kN kB kD => ?_⟩
  have NO := keep4_news D NR hdis t' K4
  have fr : ∀ q ∈ (r, W.listOf #[.bool true, .ref tT, .bool fz'.isSome] rn) :: more, s.heap.get? q.1 = none := fun q hq => none_s kg (hne q hq) (by
    have := (N q (.tail _ (.tail _ (.tail _ (.tail _ hq))))).2.2
    cases e : g.get? q.1 with
    | none => rfl
    | some o => obtain ⟨sl, e'⟩ := KT.up e; rw [this] at e'; cases e')
  have mem : ∀ q ∈ (r, W.listOf #[.bool true, .ref tT, .bool fz'.isSome] rn) :: Old tT tn rows (more ++ fzL), q ∈ (r, W.listOf #[.bool true, .ref tT, .bool fz'.isSome] rn) :: more ∨ q ∈ Old tT tn rows fzL := fun q hq => by
    rcases List.mem_cons.mp hq with rfl | hq
    · exact .inl (.head _)
    rcases List.mem_cons.mp hq with rfl | hq
    · exact .inr (.head _)
    rcases List.mem_append.mp hq with hq | hq
    · exact .inr (.tail _ (List.mem_append_left _ hq))
    rcases List.mem_append.mp hq with hq | hq
    · exact .inl (.tail _ hq)
    · exact .inr (.tail _ (List.mem_append_right _ hq))
  refine hok r tT rn tn rows vs' n' es' ep' fz' dn' tb' (more ++ fzL) h' tk h₀' t' kF kB kD (fun q hq => ?_) K4 (fun q hq => ?_) (fun q hq => ?_) Z I hk hr (Nat.le_succ _) hv hs
  · rcases List.mem_cons.mp hq with rfl | hq
    · exact kN _ (.head _)
    rcases List.mem_cons.mp hq with rfl | hq
    · exact kN _ (.tail _ (.head _))
    rcases List.mem_cons.mp hq with rfl | hq
    · exact kN _ (.tail _ (.tail _ (.head _)))
    rcases List.mem_cons.mp hq with rfl | hq
    · exact kN _ (.tail _ (.tail _ (.tail _ (.head _))))
    rcases mem q hq with hq | hq
    · exact kN _ (.tail _ (.tail _ (.tail _ (.tail _ hq))))
    · exact NO q hq
  · rcases mem q hq with hq | hq
    · exact hne q hq
    · exact hdis q hq
  · rcases mem q hq with hq | hq
    · exact .inl (fr q hq)
    · exact .inr hq

theorem step_new {prog : Program} {w : World} {A₀ : Around} {base : Heap} {outer : List Env} {env : Env} {h₀ g g' h' : Heap} {L L' : Addr} {m m' : Str → Option Value} {s : Shared} {M b DD Fa tT : Addr} {tn rn : Nat} {rows : List Row} {fzL : List (Addr × Obj)} {vs vs' : List Value} {i : Int} {R : Result → Shared → Prop}
  {o1 o2 o3 o4 : Obj} {r T' : Addr} {tn' n' : Nat} {old new : List Row} {es' : Array DictEntry} {ep' dn' : Nat} {fz' : Fz} {tb' : Option Addr} {tk : Nat} (hfr : env.frame = some L) (D : KtsDicts (outer.filterMap (·.frame)) h₀)
  (NR : News h₀ L s.heap (Old tT tn rows fzL)) (hdis : ∀ q ∈ Old tT tn rows fzL, q.1 ∉ [M, b, DD, 50])
  (kg : ∀ a o, s.heap.get? a = some o → a ∉ List.map (fun x => x.1) [(M, o1), (b, o2), (DD, o3), (50, o4)] → g.get? a = some o)
  (hok : StepOk prog w A₀ base outer h₀ L m s M b DD Fa tT tn rows fzL vs i R)
  (KT : KtsTurn ((env :: outer).filterMap (·.frame)) g g') (F : Fr g' L' h' m')
  (N : News g' L' h' ((M, W.listOf vs'.toArray n') :: (b, bobj DD (some (.ref Fa)) es' ep') :: (DD, ddo fz' dn') :: (50, tabObj (tabOf tb')) :: (r, W.listOf #[.bool true, .ref T', .bool fz'.isSome] rn) :: (T', W.listOf (tabIts (old ++ new)) tn') :: rowsL new))
  (hold : ∀ x ∈ old, x ∈ rows)
  (hne : ∀ q ∈ (r, W.listOf #[.bool true, .ref T', .bool fz'.isSome] rn) :: (T', W.listOf (tabIts (old ++ new)) tn') :: rowsL new, q.1 ∉ [M, b, DD, 50])
  (Z : FzOk fzL fz' tb' b) (I : Bk prog w es' (kvsOf (old ++ new))) (hk : ∀ x ∈ old ++ new, isKey x.key x.kv = true) (hr : ∀ x ∈ old ++ new, ∃ a, x.th = .ref a) (hl : (old ++ new).length ≤ rows.length + 1) (hv : vs'.length ≤ vs.length + 1) (hs : 2 < i.fmod 8 → vs' = vs) :
  LeaveG A₀ base outer env h₀ L m g R (.ref r) { s with heap := h', toks := tk } := by
  have K4 := keep4_of hfr kg KT F
  refine ⟨g', L', m', _, KT, F, N, fun h₀' t' kF kN kB kD => ?_⟩
  have NO := keep4_news D NR hdis t' K4
  have fr : ∀ q ∈ (r, W.listOf #[.bool true, .ref T', .bool fz'.isSome] rn) :: (T', W.listOf (tabIts (old ++ new)) tn') :: rowsL new, s.heap.get? q.1 = none := fun q hq => none_s kg (hne q hq) (by
    have := (N q (.tail _ (.tail _ (.tail _ (.tail _ hq))))).2.2
    cases e : g.get? q.1 with
    | none => rfl
    | some o => obtain ⟨sl, e'⟩ := KT.up e; rw [this] at e'; cases e')
  have mem : ∀ q ∈ (r, W.listOf #[.bool true, .ref T', .bool fz'.isSome] rn) :: Old T' tn' (old ++ new) fzL, q ∈ (r, W.listOf #[.bool true, .ref T', .bool fz'.isSome] rn) :: (T', W.listOf (tabIts (old ++ new)) tn') :: rowsL new ∨ q ∈ Old tT tn rows fzL := fun q hq => by
    rcases List.mem_cons.mp hq with rfl | hq
    · exact .inl (.head _)
    rcases List.mem_cons.mp hq with rfl | hq
    · exact .inl (.tail _ (.head _))
    rcases List.mem_append.mp hq with hq | hq
    · obtain ⟨x, hx, rfl⟩ := List.mem_map.mp hq
      rcases List.mem_append.mp hx with hx | hx
      · exact .inr (.tail _ (List.mem_append_left _ (List.mem_map_of_mem (hold x hx))))
      · exact .inl (.tail _ (.tail _ (List.mem_map.mpr ⟨x, hx, rfl⟩)))
    · exact .inr (.tail _ (List.mem_append_right _ hq))
  refine hok r T' rn tn' (old ++ new) vs' n' es' ep' fz' dn' tb' fzL h' tk h₀' t' kF kB kD (fun q hq => ?_) K4 (fun q hq => ?_) (fun q hq => ?_) Z I hk hr hl hv hs
  · rcases List.mem_cons.mp hq with rfl | hq
    · exact kN _ (.head _)
    rcases List.mem_cons.mp hq with rfl | hq
    · exact kN _ (.tail _ (.head _))
    rcases List.mem_cons.mp hq with rfl | hq
    · exact kN _ (.tail _ (.tail _ (.head _)))
    rcases List.mem_cons.mp hq with rfl | hq
    · exact kN _ (.tail _ (.tail _ (.tail _ (.head _))))
    rcases mem q hq with hq | hq
    · exact kN _ (.tail _ (.tail _ (.tail _ (.tail _ hq))))
    · exact NO q hq
  · rcases mem q hq with hq | hq
    · exact hne q hq
    · exact hdis q hq
  · rcases mem q hq with hq | hq
    · exact .inl (fr q hq)
    · exact .inr hq
end Mine
end

section
open PySem PySem.W PyProof.Rows PySem.W.X
set_option maxRecDepth 100000
set_option maxHeartbeats 8000000
namespace Mine
section
local macro_rules | `(tactic| x_close) => `(tactic| (rename (∀ (_ : Addr) (_ : Addr) (_ : Heap) (_ : Nat), _ → _) => hq; rename Mem _ _ _ _ => D; refine hq _ _ _ _ (mem_keeps D) ((D.at 5 _ _ rfl).trans ?a1) ((D.at 6 _ _ rfl).trans ?a2) (D.nw _ (List.mem_of_getElem? (i := 5) rfl)).2 (D.nw _ (List.mem_of_getElem? (i := 6) rfl)).2 ?a3; (case a1 => rw [← XFast.xe12210062019545310541]; rfl); (case a2 => rfl); (case a3 => exact List.pairwise_iff_getElem.mp D.ord 5 6 (by simp) (by simp) (by decide))))
theorem cls_book {w : World} {dep un : Nat} {gd : Option (List Code)} {env : Env} {outer : List Env} {E : Value → Shared → Prop} {s : Shared} {f T r fi : Addr} {t : Tok} {fd : FuncData} {Q : Value → Shared → Prop}
  (X : (hd.heap_39 w.params).In s.heap) (hf : s.heap.get? f = some { cls := .type "function", dict := none, data := .func fd, slots := #[] }) (hT : s.heap.get? T = some { cls := .type "list", dict := none, data := .seq #[.ref r] 0, slots := #[] }) (hr : s.heap.get? r = some { cls := .type "list", dict := none, data := .seq #[.str "b" t, .ref fi] 0, slots := #[] })
  (h : ∀ (b DD : Addr) (h' : Heap) (tk : Nat), (∀ a o, s.heap.get? a = some o → h'.get? a = some o) → h'.get? b = some (bobj DD (some (.ref f)) #[⟨hashStr w "b", .str "b" t, .ref fi⟩] 1) → h'.get? DD = some ⟨.type "dict", none, .dict #[] 0, #[]⟩ → s.heap.get? b = none → s.heap.get? DD = none → DD < b → Q (.ref b) { s with heap := h', toks := tk }) :
  wpAny (model PySem.Challenge.rw_il0026_01.row.prog w) ⟨none, dep, some (env :: outer), gd, un⟩ (call (.ref 58) [.ref f, .ref T]) Q E s := by
  x_run
end
section
local macro_rules | `(tactic| x_close) => `(tactic| (rename (∀ (_ : Addr) (_ : Addr) (_ : Heap) (_ : Nat), _ → _) => hq; rename Mem _ _ _ _ => D; refine hq _ _ _ _ (mem_keeps D) ((D.at 0 _ _ rfl).trans ?a1) ((D.at 1 _ _ rfl).trans ?a2) (D.nw _ (List.mem_of_getElem? (i := 0) rfl)).2 (D.nw _ (List.mem_of_getElem? (i := 1) rfl)).2 ?a3; (case a1 => rfl); (case a2 => rfl); (case a3 => exact List.pairwise_iff_getElem.mp D.ord 0 1 (by simp) (by simp) (by decide))))
theorem cls_bare {w : World} {dep un : Nat} {gd : Option (List Code)} {env : Env} {outer : List Env} {E : Value → Shared → Prop} {s : Shared} {Q : Value → Shared → Prop}
  (X : (hd.heap_39 w.params).In s.heap)
  (h : ∀ (b DD : Addr) (h' : Heap) (tk : Nat), (∀ a o, s.heap.get? a = some o → h'.get? a = some o) → h'.get? b = some (bobj DD none #[] 0) → h'.get? DD = some ⟨.type "dict", none, .dict #[] 0, #[]⟩ → s.heap.get? b = none → s.heap.get? DD = none → DD < b → Q (.ref b) { s with heap := h', toks := tk }) :
  wpAny (model PySem.Challenge.rw_il0026_01.row.prog w) ⟨none, dep, some (env :: outer), gd, un⟩ (call (.ref 58) []) Q E s := by
  x_run
end
end Mine
end

section
open PySem PySem.W PyProof.Rows PySem.W.X
set_option maxRecDepth 100000
set_option maxHeartbeats 8000000
namespace Mine
section
local macro_rules | `(tactic| x_close) => `(tactic| (rename (∀ (_ : Addr) (_ : Heap) (_ : Nat), _ → _) => hq; rename Mem _ _ _ _ => D; refine hq _ _ _ (mem_keeps D) ((D.at 3 _ _ rfl).trans ?a1) (D.nw _ (List.mem_of_getElem? (i := 3) rfl)).2; (case a1 => rfl)))
theorem list_bare {w : World} {dep un : Nat} {gd : Option (List Code)} {env : Env} {outer : List Env} {E : Value → Shared → Prop} {s : Shared} {b DD : Addr} {Q : Value → Shared → Prop}
  (X : (hd.heap_39 w.params).In s.heap) (hb : s.heap.get? b = some (bobj DD none #[] 0))
  (hne : ¬ b = sysModules) (h : ∀ (a : Addr) (h' : Heap) (tk : Nat), (∀ a o, s.heap.get? a = some o → h'.get? a = some o) → h'.get? a = some ⟨.type "list", none, .seq #[] 0, #[]⟩ → s.heap.get? a = none → Q (.ref a) { s with heap := h', toks := tk }) :
  wpAny (model PySem.Challenge.rw_il0026_01.row.prog w) ⟨none, dep, some (env :: outer), gd, un⟩ (call (.type "list") [.ref b]) Q E s := by
  unfold bobj at hb
  x_run
end
end Mine
end

section
open PySem PySem.W PyProof.Rows PySem.Calls
set_option maxRecDepth 100000
set_option maxHeartbeats 8000000
namespace Mine
section
variable {M : Model} {A A' : Around} {E : Value → Shared → Prop} {s' : Shared} {base g h : Heap} {outer : List Env} {env : Env} {L e : Addr} {m : Str → Option Value} {Q : Unit → Shared → Prop} {news : List (Addr × Obj)}
theorem gmade_S {cls : Value} {vs : List Value} (K : Below A base outer g) (hA : A'.frames = some (env :: outer)) (hf : env.frame = some L) (hk : env.scope.kind ≠ .module) (hx : Heap.MadeExcOf h s'.heap e cls vs) (F : Fr g L h m) (N : News g L h news)
    (hQ : ∀ h' t, RaisedS base g outer e cls t vs news h' → g.UpToSlots h' → Q () { s' with heap := h' }) :
    wpAny M A' (leaving env (.ref e)) Q E s' := by
  have hnew : base.get? L = none := by
    cases hq : base.get? L with
    | none => rfl
    | some o => exact absurd (Nat.lt_of_lt_of_le (Heap.lt_size (K.stays L o hq)) F.above) (Nat.lt_irrefl _)
  have fr : h.FunFrames base (env :: outer) := .cons hk hf F.ns hnew (K.frames.of_keeps fun b o e _ => ⟨o, F.keep b o e, rfl⟩)
  have stH : base.StaysIn h := fun b o e => F.keep b o (K.stays b o e)
  have hin : ∀ env' ∈ (env :: outer), ∀ b, env'.frame = some b → b ∈ (env :: outer).filterMap (·.frame) := fun env' he b hb => List.mem_filterMap.mpr ⟨env', he, hb⟩
  have st : base.StaysIn (hideAll h ((env :: outer).filterMap (·.frame))) := fun b o q => hideAll_get _ (stH b o q) fun hm => by
    rw [(fr.mem hm).1] at q; cases q
  have sg : ∀ b o, g.get? b = some o → b ∉ outer.filterMap (·.frame) → (hideAll h ((env :: outer).filterMap (·.frame))).get? b = some o := fun b o q nm => hideAll_get _ (F.keep b o q) fun hm => by
    rcases gmem hf hm with z | z
    · rw [z, kts_self F] at q
      cases q
    · exact nm z
  have hl : ∀ q ∈ news, (hideAll h ((env :: outer).filterMap (·.frame))).get? q.1 = some q.2 ∧ g.get? q.1 = none ∧ base.get? q.1 = none := fun q hq => by
    refine ⟨hideAll_get _ (N q hq).1 fun hm => ?_, (N q hq).2.2, fresh_of_stays K.stays (N q hq).2.2⟩
    rcases gmem hf hm with z | z
    · exact (N q hq).2.1 z
    · obtain ⟨o, ho, _⟩ := (K.frames.mem z).2
      rw [(N q hq).2.2] at ho; cases ho
  exact wpAny_leaves_madeW hA hf (fun b o q => of_hideAll _ q) (funFrames_hide fr hin) hx fun h' t x1 x2 x3 x4 =>
    hQ h' t ⟨⟨_, st, sg, hl, x1, x3⟩, x2⟩ (((Heap.UpToSlots.of_keeps F.keep).trans (Heap.UpToSlots.of_keeps hx.keeps)).trans x4)
end
section
variable {prog : Program} {w : World} {A : Around} {s : Shared} {b DD : Addr} {es : Array DictEntry} {ep : Nat} {key : Value} {R : Result → Shared → Prop}
theorem c_bound_none {a : Addr} (hh : A.handled = none) (X : (hd.heap_39 w.params).In s.heap) (hb : s.heap.get? b = some (bobj DD none es ep)) (ha : s.heap.get? a = some (bndObj b))
    (h : ∀ h' e, Heap.MadeExc s.heap h' e "KeyError" [key] → R (.error (.ref e)) { s with heap := h' }) :
    codeAny (model prog w) A (.call (.ref a) ⟨[key], []⟩) R s := by
  refine codeAny_of_tree ?_
  show wpAny _ _ (callAny (.ref a) _) _ _ _
  unfold callAny
  refine wpAny_bind (wpAny_load ha ?_)
  show wpAny _ _ (do checkBoundCall "collections.defaultdict.__missing__" ⟨[.ref b, key], []⟩; again (.builtin "collections.defaultdict.__missing__" ⟨[.ref b, key], []⟩)) _ _ _
  refine wpAny_bind (chk_bound X hb ?_)
  refine wpAny_pure ⟨q_miss _, ?_⟩
  refine codeAny_builtin e_miss ?_
  show wpAny _ A.in1 (Builtin.Collections_defaultdict.factory? (.ref b) >>= _) _ _ _
  unfold Builtin.Collections_defaultdict.factory? slotAt
  refine wpAny_bind (wpAny_bind (wpAny_bind (wpAny_loadPart hb (wpAny_pure (wpAny_pure ?_)))))
  show wpAny _ A.in1 (newExc (.type "KeyError") [key] >>= _) _ _ _
  exact wpAny_bind (wpAny_newExc_plain plainExc_KeyError (fun h' e hx => wpAny_raiseNew_none hh (h h' e hx)) (show 1 ≤ sizeLine by decide))
end
end Mine
end

section
open PySem PySem.W PyProof.Rows PySem.Calls
set_option maxRecDepth 100000
set_option maxHeartbeats 8000000
section
open Mine
local macro_rules | `(tactic| k_room) => `(tactic| (simp only [depth_deeper, recursionLimit] at *; omega))
namespace Mine
theorem missb_call {w : World} {A₀ : Around} {dep un : Nat} {gd : Option (List Code)} {base h₀ : Heap} {outer : List Env} {env : Env} {L : Addr} {m mg mb : Str → Option Value}
  {b DD : Addr} {es : Array DictEntry} {ep dn : Nat} {key : Value} {post : List (Addr × Obj)} {s : Shared} {p : Program} {loose : List Str} {mean : ExcName → Option Value} {R : Result → Shared → Prop}
  (B : Below A₀ base outer h₀) (F : Fr h₀ L s.heap m) (N : News h₀ L s.heap ((b, bobj DD none es ep) :: post)) (T : Top p loose mean mg mb h₀)
  (hfr : env.frame = some L) (hke : env.scope.kind = .function)
  (hdm : (DD, ddo none dn) ∈ post)
  (hdep : dep ≤ 530)
  (herr : ∀ g₂ e ta h' tk, Fr h₀ L g₂ m → RaisedS base g₂ (env :: outer) e (.type "KeyError") ta [key] ((b, bobj DD none es ep) :: post) h' → g₂.UpToSlots h' → R (.error (.ref e)) { s with heap := h', toks := tk }) : (hd.heap_39 w.params).In h₀ →
  codeAny (model PySem.Challenge.rw_il0026_01.row.prog w) ⟨none, dep, some (env :: outer), gd, un⟩ (.call (.ref 48) ⟨[.ref b, key], []⟩) R s := by
  w_top off
  k_fill
  intro X₀
  have hb0 : h₀.get? b = none := (N _ (.head _)).2.2
  refine' ks_code_super ?k1 ?k2 ?k3 ?k4 ?k5 ?kA ?kF ?kK ?k6 ?k7 ?k8 ?k9 ?kB ?_ ?c1 ?c2 ?c3 ?c4
  case kA => exact rfl
  case kF => exact hfr
  case kK => exact hke
  case k1 => exact B
  case k2 => exact F
  case k3 => exact X₀
  case k4 => exact N
  case k5 => exact T
  case k6 => k_is
  case k7 => k_is
  case k8 => show dep < _; k_room
  case k9 => exact BindsTo.of_eq rfl
  case kB => exact locs rfl
  case c1 => decide
  case c2 => exact rfl
  case c3 => exact rfl
  case c4 => exact rfl
  intro g' L' h₁ FG' F' N' B' X' T' l1
  refine ks_wpAt_execs_cons (ks_wpAt_Return_some (at_Call (at_Call (_root_.PySem.wpAt_of_wpAny ?_))))
  refine nameX_B F' X' (topRead_of T') (by k_is) boot_getattr (by decide) ?_
  refine at_callWith (at_args_cons (_root_.PySem.wpAt_of_wpAny (nameX_L F' rfl ?_)))
  refine at_args_cons (_root_.PySem.wpAt_of_wpAny (Calls.Constant_str ?_))
  refine at_args_cons (at_Attribute ?_)
  refine ks_node F' X' N' T' (by k_is) (by rfl) (by rfl) (inst_book (N'.get (.head _)) (N'.get (.tail _ hdm))) (by k_is) (by rfl) (by first | rfl | decide +kernel) (by k_is) (by k_is) (by k_is) (by k_is) (by decide) (by rfl) (by rfl) (by rfl) (by rfl) (by decide +kernel) (by first | boot_by_name | rfl | kernel_rfl) ?_
  intro so h₂ F₂ N₂ o₂
  have hb₂ := N₂.get (.tail _ (.head _))
  refine su_attr (X'.keeps F₂.keep) hb₂ (N₂.get (.head _)) (not_58 X₀ hb0) ?_
  intro a h₃ tk₃ k₃ e₃
  refine _root_.PySem.wpAt_of_wpAny (PyProof.Rows.args_nil ?_)
  have F₃ := F₂.keeps k₃
  have N₃ : News g' L' h₃ ((b, bobj DD none es ep) :: post) := fun q hq => news_keeps N₂ k₃ q (.tail _ hq)
  have hD₃ : h₃.get? DD = some (ddo none dn) := N₃.get (.tail _ hdm)
  refine ga_0 (X'.keeps F₃.keep) (k₃ _ _ hb₂) hD₃ fun h₄ tk₄ k₄ => ?_
  have F₄ := F₃.keeps k₄
  have N₄ := news_keeps N₃ k₄
  have e₄ := k₄ _ _ e₃
  refine _root_.PySem.wpAt_of_wpAny (cw_bound (nameX_L F₄ rfl ⟨e₄, ?_⟩))
  refine wpAny_call (c_bound_none rfl (X'.keeps F₄.keep) (N₄.get (.head _)) e₄ fun h5 e5 x5 => ?_)
  refine gmade_S B' rfl rfl (show ScopeKind.function ≠ ScopeKind.module by decide) x5.of F₄ N₄ fun h' t' R' U' => ?_
  exact herr _ _ _ _ _ FG' R' U'
end Mine
end
end

section
open PySem PySem.W PyProof.Rows PySem.Calls
open Builtin Builtin.Str Builtin.BaseException Builtin.Exceptions
set_option maxRecDepth 100000
set_option maxHeartbeats 2000000
namespace Mine
section
variable {prog : Program} {w : World} {A : Around} {E : Value → Shared → Prop} {s : Shared} {e t0 : Addr}
theorem exrObj_int {a : Int} {tk : Tok} {Q : Value → Shared → Prop} (ha : a.natAbs.log2 < 1920) (hq : Q (.str (toString a) s.toks) { s with toks := s.toks + 1 }) : wpAny (model prog w) A (excReprObject (.int a tk)) Q E s := by
  unfold excReprObject
  repeat (first | with_reducible refine wpAny_cRoomFor_byValue rfl ?_ | with_reducible refine wpAny_callSpecialIfBound?_slot (typeIs_int _ _ _) PySem.F.slot_int_repr (call_gives PySem.F.slot_int_repr (typeIs_int _ _ _) PySem.F.entry_int_repr (PySem.F.args_int_repr_1 _) (gives_int_repr a tk ha) ?_) | wp_step)
  simp only [Made.post]
  refine ⟨int_text_fits ha, ?_⟩
  repeat (first | with_reducible refine wpAny_isInstance (typeIs_str _ _ _) isSubtype_str_str ?_ | wp_step)
  exact hq
theorem kstr_int {a : Int} {tk : Tok} {Q : Fin → Shared → Prop} (ha : a.natAbs.log2 < 1920) (x : s.heap.ExcAt e "KeyError" (.ref t0)) (ht : s.heap.TupAt t0 [.int a tk])
    (hq : Q (.done (.ret (.str (toString a) s.toks))) { s with toks := s.toks + 1 }) : wpAny (model prog w) A (Builtin.«KeyError.__str__» ⟨[.ref e], []⟩) Q E s := by
  obtain ⟨o, vs, ho, _, hd, h0⟩ := id x
  obtain ⟨ot, k, hto, _, htd⟩ := id ht
  unfold Builtin.«KeyError.__str__»
  repeat (first | with_reducible refine wpAny_field ho hd h0 ?_ | with_reducible refine wpAny_seqItems hto htd ?_ | refine exrObj_int (a := a) (tk := tk) ha ?_ | wp_step)
  exact hq
end
end Mine
namespace Mine
theorem sl_kstr : Slot "KeyError" "__str__" "KeyError.__str__" :=
  (Slot.of (T := "KeyError") (name := "__str__") (owner := "KeyError") (n := "__str__") (by rw [typeLookup_type, builtinLookup_eq_fast]; kernel_rfl) (by decide +kernel) (by decide +kernel) (by decide +kernel)
    (.inl (by decide +kernel)) (by rw [isSubtype_type]; kernel_rfl))
section
variable {prog : Program} {w : World} {A : Around} {E : Value → Shared → Prop} {s : Shared} {e t0 : Addr}
theorem call_kstr {a : Int} {tk : Tok} {Q : Value → Shared → Prop} (ha : a.natAbs.log2 < 1920) (x : s.heap.ExcAt e "KeyError" (.ref t0)) (ht : s.heap.TupAt t0 [.int a tk]) (hq : Q (.str (toString a) s.toks) { s with toks := s.toks + 1 }) :
    wpAny (model prog w) A (call (.builtin "KeyError.__str__") [.ref e]) Q E s :=
  wpAny_call_entry sl_kstr x.typeIs PySem.F.entry_keyError_str (kstr_int ha x ht ⟨_, rfl, hq⟩) (PySem.F.args_keyError_str _)
theorem strOf_kerr (hu : A.units < cLine) {a : Int} {tk : Tok} {Q : Value → Shared → Prop} (ha : a.natAbs.log2 < 1920) (x : s.heap.ExcAt e "KeyError" (.ref t0)) (ht : s.heap.TupAt t0 [.int a tk]) (hq : Q (.str (toString a) s.toks) { s with toks := s.toks + 1 }) :
    wpAny (model prog w) A (Builtin.Str.strOf (.ref e)) Q E s := by
  unfold Builtin.Str.strOf
  repeat (first | with_reducible refine wpAny_cRoomFor hu ?_ | with_reducible refine wpAny_callSpecial?_slot x.typeIs sl_kstr (call_kstr ha x ht ?_) | wp_step)
  exact hq
theorem str_kerr (hu : A.units + 2 < cLine) {a : Int} {tk : Tok} {Q : Value → Shared → Prop} (ha : a.natAbs.log2 < 1920) (x : s.heap.ExcAt e "KeyError" (.ref t0)) (ht : s.heap.TupAt t0 [.int a tk]) (h : Q (.str (toString a) s.toks) { s with toks := s.toks + 1 }) :
    wpAny (model prog w) A (call (.type "str") [.ref e]) Q E s :=
  callType_new PySem.F.called_str (by decide) (PySem.F.typeCall_str_1 _) (PySem.F.newCall_str_1 _) (fun obj => PySem.F.args_object_init_2 obj _) PySem.F.entry_str_new
    (meets_str_new (S := fun A' R s' => A'.units + 1 < cLine ∧ s'.heap.ExcAt e "KeyError" (.ref t0) ∧ s'.heap.TupAt t0 [.int a tk] ∧ R (.ok (.ret (.str (toString a) s'.toks))) { s' with toks := s'.toks + 1 })
      fun _ _ A' _ _ hq => strOf_kerr (A := A'.in1) hq.1 ha hq.2.1 hq.2.2.1 hq.2.2.2)
    ⟨(show A.units + 1 + 1 < cLine from hu), x, ht, typeIs_str _ _ _, h⟩
end
end Mine
end

section
open PySem PySem.W PyProof.Rows PySem.Calls
set_option maxRecDepth 100000
set_option maxHeartbeats 2000000
section
open Mine
local macro_rules | `(tactic| k_room) => `(tactic| (simp only [depth_deeper, recursionLimit] at *; omega))
local macro_rules | `(tactic| k_all) => `(tactic| assumption)
local macro_rules | `(tactic| walk_at "subscriptTail") => `(tactic| (k_here; k_dflt (show Hold (wpAny _ _ (subscriptTail _ _ _ _) _ _ _))))
namespace Mine
theorem lookedb_call {w : World} {A₀ : Around} {dep un : Nat} {gd : Option (List Code)} {base h₀ : Heap} {outer : List Env} {env : Env} {L : Addr} {m mg mb : Str → Option Value}
  {b DD : Addr} {dn : Nat} {j : Int} {u : Tok} {post : List (Addr × Obj)} {s : Shared} {p : Program} {loose : List Str} {mean : ExcName → Option Value} {R : Result → Shared → Prop}
  (B : Below A₀ base outer h₀) (F : Fr h₀ L s.heap m) (N : News h₀ L s.heap ((b, bobj DD none #[] 0) :: post)) (T : Top p loose mean mg mb h₀)
  (D : KtsDicts (outer.filterMap (·.frame)) h₀) (TB : Top p loose mean mg mb base)
  (hfr : env.frame = some L) (hke : env.scope.kind = .function)
  (hdm : (DD, ddo none dn) ∈ post) (hbs : (b == sysModules) = false)
  (hdep : dep ≤ 520) (hun : un + 100 < cLine) (hj5 : j = 0 ∨ j = 1 ∨ j = 2 ∨ j = 3 ∨ j = 4)
  (href : ∀ h' tk t h₀', KtsTurn (outer.filterMap (·.frame)) h₀ h₀' → Fr h₀' L h' m → News h₀' L h' ((b, bobj DD none #[] 0) :: post) →
    Below A₀ base outer h₀' → KtsDicts (outer.filterMap (·.frame)) h₀' → R (.ok (.ret (.str (Str.ofString "not there: " ++ Str.ofString (toString j)) t))) { s with heap := h', toks := tk }) : (hd.heap_39 w.params).In h₀ → (hd.heap_39 w.params).In base → 
  codeAny (model PySem.Challenge.rw_il0026_01.row.prog w) ⟨none, dep, some (env :: outer), gd, un⟩ (.call (.ref 76) ⟨[.ref b, .int j u], []⟩) R s := by
  w_top off
  k_fill
  intro X₀ XB
  refine' gdefG0 ?k1 ?k2 ?k3 ?k4 ?kD ?k5 ?kA ?kF ?kK ?k6 ?k7 ?k8 ?k9 ?kB ?_ ?c1 ?c2 ?c3 ?c4
  case kA => exact rfl
  case kF => exact hfr
  case kK => exact hke
  case k1 => exact B
  case k2 => exact F
  case k3 => exact X₀
  case k4 => exact N
  case kD => exact D
  case k5 => exact T
  case k6 => k_is
  case k7 => k_is
  case k8 => show dep < _; k_room
  case k9 => first | exact binds_K (by k_in) rfl (by k_is) rfl rfl rfl | exact BindsTo.of_eq rfl
  case kB => exact locs rfl
  case c1 => exact rfl
  case c2 => exact rfl
  case c3 => exact rfl
  case c4 => decide
  intro g' L' h₁ FG' F' N' B' X' T' D' l1 kg
  have hj : j.natAbs.log2 < 1920 := by rcases hj5 with rfl | rfl | rfl | rfl | rfl <;> decide
  have hsz : (Str.ofString "not there: ").length + (Str.ofString (toString j)).length ≤ sizeLine := by rcases hj5 with rfl | rfl | rfl | rfl | rfl <;> exact Nat.le_of_ble_eq_true rfl
  try dsimp only
  k_steps
  have hb' := N'.get (.head _)
  have I : Bk PySem.Challenge.rw_il0026_01.row.prog w #[] [] := ⟨fun e he => by simp at he, .nil, List.nodup_nil⟩
  refine b_sub (X'.keeps F'.keep) hb' ?_ (by with_unfolding_all rfl)
  refine c_getitem_miss (k := .inr j) (X'.keeps F'.keep) hb' I (by simp [isKey, Value.isInt]) rfl hbs (missb_call (dep := dep + 1) B' F' N' T' rfl rfl hdm (by omega) ?_ X')
  intro g5 e5 a5 h5 tk5 G5 R5 U5
  dsimp only
  k_steps
  rename Got _ _ _ _ _ => G1
  refine str_kerr (show un + 3 + 2 < cLine by omega) hj (Got.excAt (by assumption) G1).1 (Got.excAt (by assumption) G1).2 ?_
  dsimp only
  refine PyProof.Rows.add_str (fun t9 tk9 => ?_) hsz
  k_steps
  rename KtsTurn _ _ _ => kT
  rename Fr _ _ _ _ => kF0
  rename News _ _ _ _ => kN0
  exact ⟨_, _, _, _, kT, kF0, kN0, fun h₀' t' kF kN kB kD => href _ _ _ _ t' kF kN kB kD⟩
end Mine
end
end

section
open PySem PySem.W PyProof.Rows PySem.Calls
set_option maxRecDepth 100000
set_option maxHeartbeats 2000000
namespace Mine
section
variable {prog : Program} {w : World} {A : Around} {E : Value → Shared → Prop} {s : Shared} {env : Env} {h₀ : Heap} {x : Str} {body : List Stmt} {Q : Flow → Shared → Prop}
def TurnOk (h₀ : Heap) (L I l : Addr) (oI oL : Obj) (J : (Str → Option Value) → List (Addr × Obj) → Prop) (Q : Flow → Shared → Prop) (s₁ : Shared) (f : Flow) (s₂ : Shared) : Prop :=
  match f with
  | .ret v => Q (.ret v) s₂
  | .brk => Q .next s₂
  | _ => ∃ h' tk m' news', s₂ = { s₁ with heap := h', toks := tk } ∧ Fr h₀ L h' m' ∧ News h₀ L h' ((I, oI) :: (l, oL) :: news') ∧ (∀ p ∈ news', p.1 ≠ I) ∧ J m' news'
theorem iter_new {l : Addr} {vs : List Value} {n₀ : Nat} {m₀ : Str → Option Value} {news : List (Addr × Obj)} (J : Nat → (Str → Option Value) → List (Addr × Obj) → Prop)
    (hh : A.handled = none) (F : Fr h₀ env.locals s.heap m₀) (N : News h₀ env.locals s.heap ((l, W.listOf vs.toArray n₀) :: news)) (hj : J 0 m₀ news)
    (turn : ∀ i v m₁ news₁ h tk oI oL, vs[i]? = some v → J i m₁ news₁ → (∀ p ∈ news₁, p.1 ≠ s.heap.objs.size) → Fr h₀ env.locals h (fun y => if y = x then some v else m₁ y) → News h₀ env.locals h ((s.heap.objs.size, oI) :: (l, oL) :: news₁) →
      wpAny (model prog w) A (execs body env) (TurnOk h₀ env.locals s.heap.objs.size l oI oL (J (i + 1)) Q { s with heap := h, toks := tk }) E { s with heap := h, toks := tk })
    (done : ∀ m₁ news₁ h tk, J vs.length m₁ news₁ → Fr h₀ env.locals h m₁ → News h₀ env.locals h news₁ → Q .next { s with heap := h, toks := tk }) :
    wpAny (model prog w) A (pyIter (.ref l)) (fun it s₂ => LoopAtV prog w A h₀ env x body Q E it s₂) E s := by
  have nl := N _ (.head _)
  have hls : s.heap.IsList l vs.toArray := ⟨_, nl.1, rfl, _, rfl⟩
  have hlt : l < s.heap.objs.size := Heap.lt_size nl.1
  have hne : l ≠ s.heap.objs.size := Nat.ne_of_lt hlt
  refine wpAny_pyIter_list hls ?_
  have W := Walks.list (prog := prog) (w := w) hh s.heap.objs.size l hne vs.toArray
  have hlen : vs.toArray.size = vs.length := by simp
  rw [hlen] at W
  refine ⟨_, _, _, vs.length, _, _, m₀, news, J, rfl, W, ?_, ?_, ?_, ⟨⟨_, Heap.get?_push_size _ rfl, rfl, rfl⟩, hls.at fun o e => Heap.get?_push_of_some _ e⟩, F.push _, (fun p hp => ⟨Heap.get?_push_of_some _ (N p (.tail _ hp)).1, (N p (.tail _ hp)).2⟩), hj, ?_, ?_⟩
  · intro hm
    rcases List.mem_cons.mp hm with e | hm
    · exact absurd F.ns.lt (e ▸ Nat.lt_irrefl _)
    · exact nl.2.1 (List.mem_singleton.mp hm).symm
  · intro b hb
    rw [List.mem_singleton.mp hb]
    exact next_is_new F
  · intro p hp hI
    exact absurd (Heap.lt_size (N p (.tail _ hp)).1) ((List.mem_singleton.mp hI) ▸ Nat.lt_irrefl _)
  · rintro i v m₁ news₁ s₁ own ⟨hh', tk', rfl⟩ hin hP hJ hoff hsub hget hall hst F₁ N₁
    obtain ⟨⟨oI, eI, _⟩, ⟨oL, eL, _⟩⟩ := id hst
    have mI := hall _ (.head _) (next_is_new F) oI eI
    have mL := hall _ (.tail _ (.head _)) nl.2.2 oL eL
    have N₂ : News h₀ env.locals hh' ((s.heap.objs.size, oI) :: (l, oL) :: news₁) := fun p hp => by
      rcases List.mem_cons.mp hp with rfl | hp
      · exact N₁ _ (List.mem_append_left _ mI)
      rcases List.mem_cons.mp hp with rfl | hp
      · exact N₁ _ (List.mem_append_left _ mL)
      · exact N₁ _ (List.mem_append_right _ hp)
    refine wpAny_mono (turn i v m₁ news₁ hh' tk' oI oL (by simpa using hP) hJ (fun p hp q => hoff p hp (by rw [q]; exact .head _)) F₁ N₂) (fun f s₂ p => ?_) fun _ _ e => e
    have own2 : ∀ p ∈ own, p = (s.heap.objs.size, oI) ∨ p = (l, oL) := fun p hp => by
      have g := hget p hp
      rcases List.mem_cons.mp (hsub p hp) with e | e
      · left; rw [e, eI] at g; exact Prod.ext e (Option.some.inj g).symm
      · right
        have e := List.mem_singleton.mp e
        rw [e, eL] at g; exact Prod.ext e (Option.some.inj g).symm
    have fin : (∃ h' tk m' news', s₂ = { s with heap := h', toks := tk } ∧ Fr h₀ env.locals h' m' ∧ News h₀ env.locals h' ((s.heap.objs.size, oI) :: (l, oL) :: news') ∧ (∀ p ∈ news', p.1 ≠ s.heap.objs.size) ∧ J (i + 1) m' news') →
        LoopStepU h₀ env.locals [s.heap.objs.size] own (J (i + 1)) { s with heap := hh', toks := tk' } .next s₂ := by
      rintro ⟨h', tk, m', news', e, F', N', ho, hm⟩
      refine ⟨rfl, h', tk, m', news', e, F', fun p hp => ?_, fun p hp q => ho p hp (List.mem_singleton.mp q), hm⟩
      rcases List.mem_append.mp hp with hp | hp
      · rcases own2 p hp with rfl | rfl
        · exact N' _ (.head _)
        · exact N' _ (.tail _ (.head _))
      · exact N' p (.tail _ (.tail _ hp))
    cases f with
    | ret v => exact .ret p
    | brk => exact .brk p
    | next => exact .next (fin p)
    | cont => exact .cont (fin p)
  · rintro h' tk m' news' F' N' _ hJ
    exact done m' news' h' tk hJ F' N'
end
end Mine
end

section
open PySem PySem.W PyProof.Rows PySem.Calls
set_option maxRecDepth 100000
set_option maxHeartbeats 2000000
namespace Mine
theorem back_fr {h₀ h₀' h : Heap} {L : Addr} {m : Str → Option Value} (t : KtsTurn [] h₀ h₀') (F : Fr h₀' L h m) : Fr h₀ L h m :=
  ⟨F.ns, fun b o e => F.keep b o (t.other b o e List.not_mem_nil), by rw [← t.size]; exact F.above⟩
theorem back_news {h₀ h₀' h : Heap} {L : Addr} {l : List (Addr × Obj)} (t : KtsTurn [] h₀ h₀') (N : News h₀' L h l) : News h₀ L h l := fun p hp => ⟨(N p hp).1, (N p hp).2.1, by
  cases e : h₀.get? p.1 with
  | none => rfl
  | some o => have := t.other _ _ e List.not_mem_nil; rw [(N p hp).2.2] at this; cases this⟩
theorem no_dicts {h : Heap} : KtsDicts (([] : List Env).filterMap (·.frame)) h := fun b hb => nomatch hb
theorem keep_fixed {h₀ h' : Heap} {L M b DD : Addr} {s : Shared} {fx : List (Addr × Obj)} (N : News h₀ L s.heap fx) (K : Keep4 s [] L M b DD h') (hd : ∀ p ∈ fx, p.1 ∉ [M, b, DD, 50]) : News h₀ L h' fx :=
  fun p hp => ⟨K _ _ (N p hp).1 (hd p hp) (N p hp).2.1 (fun q => nomatch q), (N p hp).2⟩
theorem tail_off {s : Shared} {fixed : List Addr} {new old : List (Addr × Obj)} (hs : ∀ c ∈ fixed, ∃ o, s.heap.get? c = some o) (ho : ∀ q ∈ old, q.1 ∉ fixed) (hnew : ∀ q ∈ new, s.heap.get? q.1 = none ∨ q ∈ old) : ∀ q ∈ new, q.1 ∉ fixed := fun q hq hm => by
  rcases hnew q hq with e | e
  · obtain ⟨o, ho'⟩ := hs _ hm
    rw [e] at ho'; cases ho'
  · exact ho q e hm
abbrev LNews (M b DD cT cP bb DB Fa cF cM : Addr) (oF oC oM o9 oT oP : Obj) (vs : List Value) (n : Nat) (es : Array DictEntry) (ep : Nat) (fz : Fz) (dn : Nat) (tb : Option Addr) (tT : Addr) (tn : Nat) (rows : List Row) (fzL : List (Addr × Obj)) : List (Addr × Obj) :=
  (M, W.listOf vs.toArray n) :: (b, bobj DD (some (.ref Fa)) es ep) :: (DD, ddo fz dn) :: (50, tabObj (tabOf tb)) :: (cT, oT) :: (cP, oP) :: (bb, bobj DB none #[] 0) :: (DB, ddo none 0) :: (90, o9) :: (Fa, oF) :: (cF, oC) :: (cM, oM) :: Old tT tn rows fzL
def LawJ (prog : Program) (w : World) (M b DD cT cP bb DB Fa cF cM : Addr) (oF oC oM o9 : Obj) (i : Nat) (m : Str → Option Value) (news : List (Addr × Obj)) : Prop :=
  ∃ (fz : Fz) (vs : List Value) (n : Nat) (es : Array DictEntry) (ep dn : Nat) (tb : Option Addr) (tT : Addr) (tn : Nat) (rows : List Row) (fzL : List (Addr × Obj)) (oT oP : Obj) (vP : Option Value) (u : Str → Option Value),
    news = LNews M b DD cT cP bb DB Fa cF cM oF oC oM o9 oT oP vs n es ep fz dn tb tT tn rows fzL ∧
    m = (fun (y : Str) => if y = "frozen" then some (.bool fz.isSome) else if y = "book" then some (.ref b) else if y = "bare" then some (.ref bb) else u y) ∧
    oT.data = .cell (some (.ref tT)) ∧ oP.data = .cell vP ∧ FzOk fzL fz tb b ∧ Bk prog w es (kvsOf rows) ∧ (∀ x ∈ rows, isKey x.key x.kv = true) ∧ (∀ x ∈ rows, ∃ a, x.th = .ref a) ∧ rows.length ≤ i + 1 ∧ vs.length ≤ i ∧
    (∀ q ∈ Old tT tn rows fzL, q.1 ∉ [M, b, DD, 50, cT, cP, bb, DB, 90, Fa, cF, cM])
end Mine
end

section
open PySem PySem.W PyProof.Rows PySem.Calls
set_option maxRecDepth 100000
set_option maxHeartbeats 2000000
namespace Mine
theorem bk_first {prog : Program} {w : World} {t : Tok} {f0 : Addr} : Bk prog w #[⟨hashStr w "b", .str "b" t, .ref f0⟩] [(.inl "b", .ref f0)] where
  keys := fun e he => ⟨.inl "b", by
    obtain rfl : e = ⟨hashStr w "b", .str "b" t, .ref f0⟩ := by simpa using he
    exact ⟨by simp [mixKind, isKey, Value.isStrOf], rfl⟩⟩
  pairs := .cons (by simp [mixKind, isKey, Value.isStrOf]) rfl .nil
  nodup := by simp
def tag (o : Obj) : Nat := match o.data with
  | .seq _ _ => 2
  | .dict _ _ => (match o.cls with | .ref _ => (match o.slots[0]? with | some (some _) => 4 | _ => 3) | _ => 5)
  | .cell _ => 6
  | .func _ => 7
  | .fields _ => 8
  | _ => 9
theorem obj_ne {h₀ h : Heap} {L x y : Addr} {ox oy : Obj} {l : List (Addr × Obj)} (N : News h₀ L h l) (hx : (x, ox) ∈ l) (hy : (y, oy) ∈ l) (q : ox ≠ oy) : x ≠ y := fun e => q (by
  have a := N.get hx
  have b := N.get hy
  rw [e, b] at a
  exact (Option.some.inj a).symm)
theorem tag_ne {h₀ h : Heap} {L x y : Addr} {ox oy : Obj} {l : List (Addr × Obj)} (N : News h₀ L h l) (hx : (x, ox) ∈ l) (hy : (y, oy) ∈ l) {i j : Nat} (gi : tag ox = i) (gj : tag oy = j) (q : i ≠ j) : x ≠ y :=
  obj_ne N hx hy fun e => q (by rw [← gi, ← gj, e])
section
variable {prog : Program} {w : World} {A : Around} {E : Value → Shared → Prop} {s : Shared} {env : Env} {h₀ : Heap} {body : List Stmt} {Q : Flow → Shared → Prop}
theorem law_loop {l M b DD bb DB Fa cF cM cP cT tT r0 f0 : Addr} {x1 x2 x3 x4 x5 x6 x7 : Addr × Obj} {oF oC oM oP oT o9 : Obj} {ws : List Value} {ns : List Int} {t0 : Tok} {m₀ u : Str → Option Value} {vP : Option Value}
    (hh : A.handled = none) (F : Fr h₀ env.locals s.heap m₀)
    (N : News h₀ env.locals s.heap [(l, W.listOf ws.toArray 0), x1, x2, x3, x4, (DB, ddo none 0), (bb, bobj DB none #[] 0), (DD, ddo none 0), (b, bobj DD (some (.ref Fa)) #[⟨hashStr w "b", .str "b" t0, .ref f0⟩] 1), (Fa, oF), (cF, oC), x5, (tT, W.listOf #[.ref r0] 0), (r0, W.listOf #[.str "b" t0, .ref f0] 0), x6, (M, W.listOf #[] 0), x7, (cM, oM), (cP, oP), (cT, oT), (50, tabObj #[]), (90, o9)])
    (hI : IntsAre ws ns) (hm₀ : m₀ = fun y : Str => if y = "book" then some (.ref b) else if y = "bare" then some (.ref bb) else if y = "frozen" then some (.bool false) else u y)
    (dT : oT.data = .cell (some (.ref tT))) (dP : oP.data = .cell vP) (dM : oM.data = .cell (some (.ref M))) {fd : FuncData} (dF : oF.data = .func fd) {cds : Array Value} (dC : oC.data = .fields cds) {o9s : Array Value} (d9 : o9 = tabObj o9s) (hws : ws ≠ []) (hDD : DD ≠ DB) (hTP : cT ≠ cP) (hTM : cT ≠ cM) (hPM : cP ≠ cM) (hF5 : cF ≠ 50) (hF9 : cF ≠ 90) (hSta : ∀ g : Heap, g.get? Fa = some oF → g.get? cF = some oC → g.get? cM = some oM → Sta g Fa M)
    (turn : (∀ f ∈ [cT, cP, bb, DB, 90, Fa, cF, cM, l], f ∉ [M, b, DD, 50]) → (b ≠ M ∧ DD ≠ M ∧ M ≠ 50 ∧ b ≠ DD ∧ b ≠ 50 ∧ DD ≠ 50) → (∀ f ∈ [M, b, DD, 50, cP, bb, DB, 90, Fa, cF, cM, l], f ≠ cT) → (∀ f ∈ [M, b, DD, 50, cT, bb, DB, 90, Fa, cF, cM, l], f ≠ cP) → (∀ g : Heap, g.get? Fa = some oF → g.get? cF = some oC → g.get? cM = some oM → Sta g Fa M) → oM.data = .cell (some (.ref M)) → ∀ (i : Nat) (k : Int) (t : Tok) (I : Addr) (h : Heap) (tk : Nat) (oI oL : Obj) (fz : Fz) (vs : List Value) (n : Nat) (es : Array DictEntry) (ep dn : Nat) (tb : Option Addr) (tT : Addr) (tn : Nat) (rows : List Row) (fzL : List (Addr × Obj)) (oT oP : Obj) (vP : Option Value) (u : Str → Option Value),
      i < ns.length → oT.data = .cell (some (.ref tT)) → oP.data = .cell vP → FzOk fzL fz tb b → Bk prog w es (kvsOf rows) → (∀ x ∈ rows, isKey x.key x.kv = true) → (∀ x ∈ rows, ∃ a, x.th = .ref a) → rows.length ≤ i + 1 → vs.length ≤ i →
      (∀ q ∈ Old tT tn rows fzL, q.1 ∉ [M, b, DD, 50, cT, cP, bb, DB, 90, Fa, cF, cM]) →
      (∀ p ∈ LNews M b DD cT cP bb DB Fa cF cM oF oC oM o9 oT oP vs n es ep fz dn tb tT tn rows fzL, p.1 ≠ I) →
      Fr h₀ env.locals h (fun y : Str => if y = "x" then some (.int k t) else if y = "frozen" then some (.bool fz.isSome) else if y = "book" then some (.ref b) else if y = "bare" then some (.ref bb) else u y) →
      News h₀ env.locals h ((I, oI) :: (l, oL) :: LNews M b DD cT cP bb DB Fa cF cM oF oC oM o9 oT oP vs n es ep fz dn tb tT tn rows fzL) →
      wpAny (model prog w) A (execs body env) (TurnOk h₀ env.locals I l oI oL (LawJ prog w M b DD cT cP bb DB Fa cF cM oF oC oM o9 (i + 1)) Q { s with heap := h, toks := tk }) E { s with heap := h, toks := tk })
    (done : ∀ m₁ h tk tb, Fr h₀ env.locals h m₁ → News h₀ env.locals h [(50, tabObj (tabOf tb)), (90, o9)] → Q .next { s with heap := h, toks := tk }) :
    wpAny (model prog w) A (pyIter (.ref l)) (fun it s₂ => LoopAtV prog w A h₀ env "x" body Q E it s₂) E s := by
  have gM : tag (W.listOf (#[] : Array Value) 0) = 2 := rfl
  have gb : tag (bobj DD (some (.ref Fa)) #[⟨hashStr w "b", .str "b" t0, .ref f0⟩] 1) = 4 := rfl
  have gDD : tag (ddo none 0) = 5 := rfl
  have gDB : tag (ddo none 0) = 5 := rfl
  have gbb : tag (bobj DB none #[] 0) = 3 := rfl
  have g50 : tag (tabObj #[]) = 8 := rfl
  have g90 : tag o9 = 8 := by rw [d9]; rfl
  have gcT : tag oT = 6 := by unfold tag; rw [dT]
  have gcP : tag oP = 6 := by unfold tag; rw [dP]
  have gcM : tag oM = 6 := by unfold tag; rw [dM]
  have gFa : tag oF = 7 := by unfold tag; rw [dF]
  have gcF : tag oC = 8 := by unfold tag; rw [dC]
  have gl : tag (W.listOf ws.toArray 0) = 2 := rfl
  have gtT : tag (W.listOf (#[.ref r0] : Array Value) 0) = 2 := rfl
  have gr0 : tag (W.listOf (#[.str "b" t0, .ref f0] : Array Value) 0) = 2 := rfl
  have nm : ∀ {a c : Addr} {l : List Addr}, a ≠ c → a ∉ l → a ∉ c :: l := fun h1 h2 h3 => (List.mem_cons.mp h3).elim h1 h2
  have ml : M ≠ l := obj_ne N (List.mem_of_getElem? (i := 15) rfl) (List.mem_of_getElem? (i := 0) rfl) (by intro e; injection e with _ _ e _; injection e with e _; exact hws (by simpa using e.symm))
  have mt : M ≠ tT := obj_ne N (List.mem_of_getElem? (i := 15) rfl) (List.mem_of_getElem? (i := 12) rfl) (by intro e; injection e with _ _ e _; injection e with e _; simp at e)
  have mr : M ≠ r0 := obj_ne N (List.mem_of_getElem? (i := 15) rfl) (List.mem_of_getElem? (i := 13) rfl) (by intro e; injection e with _ _ e _; injection e with e _; simp at e)
  have htT : tT ∉ [M, b, DD, 50, cT, cP, bb, DB, 90, Fa, cF, cM] := (nm (Ne.symm mt) (nm (tag_ne N (List.mem_of_getElem? (i := 12) rfl) (List.mem_of_getElem? (i := 8) rfl) gtT gb (by decide)) (nm (tag_ne N (List.mem_of_getElem? (i := 12) rfl) (List.mem_of_getElem? (i := 7) rfl) gtT gDD (by decide)) (nm (tag_ne N (List.mem_of_getElem? (i := 12) rfl) (List.mem_of_getElem? (i := 20) rfl) gtT g50 (by decide)) (nm (tag_ne N (List.mem_of_getElem? (i := 12) rfl) (List.mem_of_getElem? (i := 19) rfl) gtT gcT (by decide)) (nm (tag_ne N (List.mem_of_getElem? (i := 12) rfl) (List.mem_of_getElem? (i := 18) rfl) gtT gcP (by decide)) (nm (tag_ne N (List.mem_of_getElem? (i := 12) rfl) (List.mem_of_getElem? (i := 6) rfl) gtT gbb (by decide)) (nm (tag_ne N (List.mem_of_getElem? (i := 12) rfl) (List.mem_of_getElem? (i := 5) rfl) gtT gDB (by decide)) (nm (tag_ne N (List.mem_of_getElem? (i := 12) rfl) (List.mem_of_getElem? (i := 21) rfl) gtT g90 (by decide)) (nm (tag_ne N (List.mem_of_getElem? (i := 12) rfl) (List.mem_of_getElem? (i := 9) rfl) gtT gFa (by decide)) (nm (tag_ne N (List.mem_of_getElem? (i := 12) rfl) (List.mem_of_getElem? (i := 10) rfl) gtT gcF (by decide)) (nm (tag_ne N (List.mem_of_getElem? (i := 12) rfl) (List.mem_of_getElem? (i := 17) rfl) gtT gcM (by decide)) List.not_mem_nil))))))))))))
  have hr0 : r0 ∉ [M, b, DD, 50, cT, cP, bb, DB, 90, Fa, cF, cM] := (nm (Ne.symm mr) (nm (tag_ne N (List.mem_of_getElem? (i := 13) rfl) (List.mem_of_getElem? (i := 8) rfl) gr0 gb (by decide)) (nm (tag_ne N (List.mem_of_getElem? (i := 13) rfl) (List.mem_of_getElem? (i := 7) rfl) gr0 gDD (by decide)) (nm (tag_ne N (List.mem_of_getElem? (i := 13) rfl) (List.mem_of_getElem? (i := 20) rfl) gr0 g50 (by decide)) (nm (tag_ne N (List.mem_of_getElem? (i := 13) rfl) (List.mem_of_getElem? (i := 19) rfl) gr0 gcT (by decide)) (nm (tag_ne N (List.mem_of_getElem? (i := 13) rfl) (List.mem_of_getElem? (i := 18) rfl) gr0 gcP (by decide)) (nm (tag_ne N (List.mem_of_getElem? (i := 13) rfl) (List.mem_of_getElem? (i := 6) rfl) gr0 gbb (by decide)) (nm (tag_ne N (List.mem_of_getElem? (i := 13) rfl) (List.mem_of_getElem? (i := 5) rfl) gr0 gDB (by decide)) (nm (tag_ne N (List.mem_of_getElem? (i := 13) rfl) (List.mem_of_getElem? (i := 21) rfl) gr0 g90 (by decide)) (nm (tag_ne N (List.mem_of_getElem? (i := 13) rfl) (List.mem_of_getElem? (i := 9) rfl) gr0 gFa (by decide)) (nm (tag_ne N (List.mem_of_getElem? (i := 13) rfl) (List.mem_of_getElem? (i := 10) rfl) gr0 gcF (by decide)) (nm (tag_ne N (List.mem_of_getElem? (i := 13) rfl) (List.mem_of_getElem? (i := 17) rfl) gr0 gcM (by decide)) List.not_mem_nil))))))))))))
  have H4 : (∀ f ∈ [cT, cP, bb, DB, 90, Fa, cF, cM, l], f ∉ [M, b, DD, 50]) := (List.forall_mem_cons.mpr ⟨(nm (tag_ne N (List.mem_of_getElem? (i := 19) rfl) (List.mem_of_getElem? (i := 15) rfl) gcT gM (by decide)) (nm (tag_ne N (List.mem_of_getElem? (i := 19) rfl) (List.mem_of_getElem? (i := 8) rfl) gcT gb (by decide)) (nm (tag_ne N (List.mem_of_getElem? (i := 19) rfl) (List.mem_of_getElem? (i := 7) rfl) gcT gDD (by decide)) (nm (tag_ne N (List.mem_of_getElem? (i := 19) rfl) (List.mem_of_getElem? (i := 20) rfl) gcT g50 (by decide)) List.not_mem_nil)))), (List.forall_mem_cons.mpr ⟨(nm (tag_ne N (List.mem_of_getElem? (i := 18) rfl) (List.mem_of_getElem? (i := 15) rfl) gcP gM (by decide)) (nm (tag_ne N (List.mem_of_getElem? (i := 18) rfl) (List.mem_of_getElem? (i := 8) rfl) gcP gb (by decide)) (nm (tag_ne N (List.mem_of_getElem? (i := 18) rfl) (List.mem_of_getElem? (i := 7) rfl) gcP gDD (by decide)) (nm (tag_ne N (List.mem_of_getElem? (i := 18) rfl) (List.mem_of_getElem? (i := 20) rfl) gcP g50 (by decide)) List.not_mem_nil)))), (List.forall_mem_cons.mpr ⟨(nm (tag_ne N (List.mem_of_getElem? (i := 6) rfl) (List.mem_of_getElem? (i := 15) rfl) gbb gM (by decide)) (nm (tag_ne N (List.mem_of_getElem? (i := 6) rfl) (List.mem_of_getElem? (i := 8) rfl) gbb gb (by decide)) (nm (tag_ne N (List.mem_of_getElem? (i := 6) rfl) (List.mem_of_getElem? (i := 7) rfl) gbb gDD (by decide)) (nm (tag_ne N (List.mem_of_getElem? (i := 6) rfl) (List.mem_of_getElem? (i := 20) rfl) gbb g50 (by decide)) List.not_mem_nil)))), (List.forall_mem_cons.mpr ⟨(nm (tag_ne N (List.mem_of_getElem? (i := 5) rfl) (List.mem_of_getElem? (i := 15) rfl) gDB gM (by decide)) (nm (tag_ne N (List.mem_of_getElem? (i := 5) rfl) (List.mem_of_getElem? (i := 8) rfl) gDB gb (by decide)) (nm (Ne.symm hDD) (nm (tag_ne N (List.mem_of_getElem? (i := 5) rfl) (List.mem_of_getElem? (i := 20) rfl) gDB g50 (by decide)) List.not_mem_nil)))), (List.forall_mem_cons.mpr ⟨(nm (tag_ne N (List.mem_of_getElem? (i := 21) rfl) (List.mem_of_getElem? (i := 15) rfl) g90 gM (by decide)) (nm (tag_ne N (List.mem_of_getElem? (i := 21) rfl) (List.mem_of_getElem? (i := 8) rfl) g90 gb (by decide)) (nm (tag_ne N (List.mem_of_getElem? (i := 21) rfl) (List.mem_of_getElem? (i := 7) rfl) g90 gDD (by decide)) (nm (Ne.symm (show (50 : Addr) ≠ 90 by decide)) List.not_mem_nil)))), (List.forall_mem_cons.mpr ⟨(nm (tag_ne N (List.mem_of_getElem? (i := 9) rfl) (List.mem_of_getElem? (i := 15) rfl) gFa gM (by decide)) (nm (tag_ne N (List.mem_of_getElem? (i := 9) rfl) (List.mem_of_getElem? (i := 8) rfl) gFa gb (by decide)) (nm (tag_ne N (List.mem_of_getElem? (i := 9) rfl) (List.mem_of_getElem? (i := 7) rfl) gFa gDD (by decide)) (nm (tag_ne N (List.mem_of_getElem? (i := 9) rfl) (List.mem_of_getElem? (i := 20) rfl) gFa g50 (by decide)) List.not_mem_nil)))), (List.forall_mem_cons.mpr ⟨(nm (tag_ne N (List.mem_of_getElem? (i := 10) rfl) (List.mem_of_getElem? (i := 15) rfl) gcF gM (by decide)) (nm (tag_ne N (List.mem_of_getElem? (i := 10) rfl) (List.mem_of_getElem? (i := 8) rfl) gcF gb (by decide)) (nm (tag_ne N (List.mem_of_getElem? (i := 10) rfl) (List.mem_of_getElem? (i := 7) rfl) gcF gDD (by decide)) (nm hF5 List.not_mem_nil)))), (List.forall_mem_cons.mpr ⟨(nm (tag_ne N (List.mem_of_getElem? (i := 17) rfl) (List.mem_of_getElem? (i := 15) rfl) gcM gM (by decide)) (nm (tag_ne N (List.mem_of_getElem? (i := 17) rfl) (List.mem_of_getElem? (i := 8) rfl) gcM gb (by decide)) (nm (tag_ne N (List.mem_of_getElem? (i := 17) rfl) (List.mem_of_getElem? (i := 7) rfl) gcM gDD (by decide)) (nm (tag_ne N (List.mem_of_getElem? (i := 17) rfl) (List.mem_of_getElem? (i := 20) rfl) gcM g50 (by decide)) List.not_mem_nil)))), (List.forall_mem_cons.mpr ⟨(nm (Ne.symm ml) (nm (tag_ne N (List.mem_of_getElem? (i := 0) rfl) (List.mem_of_getElem? (i := 8) rfl) gl gb (by decide)) (nm (tag_ne N (List.mem_of_getElem? (i := 0) rfl) (List.mem_of_getElem? (i := 7) rfl) gl gDD (by decide)) (nm (tag_ne N (List.mem_of_getElem? (i := 0) rfl) (List.mem_of_getElem? (i := 20) rfl) gl g50 (by decide)) List.not_mem_nil)))), (fun _ q => absurd q List.not_mem_nil)⟩)⟩)⟩)⟩)⟩)⟩)⟩)⟩)⟩)
  have H5 : (b ≠ M ∧ DD ≠ M ∧ M ≠ 50 ∧ b ≠ DD ∧ b ≠ 50 ∧ DD ≠ 50) := ⟨(tag_ne N (List.mem_of_getElem? (i := 8) rfl) (List.mem_of_getElem? (i := 15) rfl) gb gM (by decide)), (tag_ne N (List.mem_of_getElem? (i := 7) rfl) (List.mem_of_getElem? (i := 15) rfl) gDD gM (by decide)), (tag_ne N (List.mem_of_getElem? (i := 15) rfl) (List.mem_of_getElem? (i := 20) rfl) gM g50 (by decide)), (tag_ne N (List.mem_of_getElem? (i := 8) rfl) (List.mem_of_getElem? (i := 7) rfl) gb gDD (by decide)), (tag_ne N (List.mem_of_getElem? (i := 8) rfl) (List.mem_of_getElem? (i := 20) rfl) gb g50 (by decide)), (tag_ne N (List.mem_of_getElem? (i := 7) rfl) (List.mem_of_getElem? (i := 20) rfl) gDD g50 (by decide))⟩
  have HT : (∀ f ∈ [M, b, DD, 50, cP, bb, DB, 90, Fa, cF, cM, l], f ≠ cT) := (List.forall_mem_cons.mpr ⟨(tag_ne N (List.mem_of_getElem? (i := 15) rfl) (List.mem_of_getElem? (i := 19) rfl) gM gcT (by decide)), (List.forall_mem_cons.mpr ⟨(tag_ne N (List.mem_of_getElem? (i := 8) rfl) (List.mem_of_getElem? (i := 19) rfl) gb gcT (by decide)), (List.forall_mem_cons.mpr ⟨(tag_ne N (List.mem_of_getElem? (i := 7) rfl) (List.mem_of_getElem? (i := 19) rfl) gDD gcT (by decide)), (List.forall_mem_cons.mpr ⟨(tag_ne N (List.mem_of_getElem? (i := 20) rfl) (List.mem_of_getElem? (i := 19) rfl) g50 gcT (by decide)), (List.forall_mem_cons.mpr ⟨(Ne.symm hTP), (List.forall_mem_cons.mpr ⟨(tag_ne N (List.mem_of_getElem? (i := 6) rfl) (List.mem_of_getElem? (i := 19) rfl) gbb gcT (by decide)), (List.forall_mem_cons.mpr ⟨(tag_ne N (List.mem_of_getElem? (i := 5) rfl) (List.mem_of_getElem? (i := 19) rfl) gDB gcT (by decide)), (List.forall_mem_cons.mpr ⟨(tag_ne N (List.mem_of_getElem? (i := 21) rfl) (List.mem_of_getElem? (i := 19) rfl) g90 gcT (by decide)), (List.forall_mem_cons.mpr ⟨(tag_ne N (List.mem_of_getElem? (i := 9) rfl) (List.mem_of_getElem? (i := 19) rfl) gFa gcT (by decide)), (List.forall_mem_cons.mpr ⟨(tag_ne N (List.mem_of_getElem? (i := 10) rfl) (List.mem_of_getElem? (i := 19) rfl) gcF gcT (by decide)), (List.forall_mem_cons.mpr ⟨(Ne.symm hTM), (List.forall_mem_cons.mpr ⟨(tag_ne N (List.mem_of_getElem? (i := 0) rfl) (List.mem_of_getElem? (i := 19) rfl) gl gcT (by decide)), (fun _ q => absurd q List.not_mem_nil)⟩)⟩)⟩)⟩)⟩)⟩)⟩)⟩)⟩)⟩)⟩)⟩)
  have HP : (∀ f ∈ [M, b, DD, 50, cT, bb, DB, 90, Fa, cF, cM, l], f ≠ cP) := (List.forall_mem_cons.mpr ⟨(tag_ne N (List.mem_of_getElem? (i := 15) rfl) (List.mem_of_getElem? (i := 18) rfl) gM gcP (by decide)), (List.forall_mem_cons.mpr ⟨(tag_ne N (List.mem_of_getElem? (i := 8) rfl) (List.mem_of_getElem? (i := 18) rfl) gb gcP (by decide)), (List.forall_mem_cons.mpr ⟨(tag_ne N (List.mem_of_getElem? (i := 7) rfl) (List.mem_of_getElem? (i := 18) rfl) gDD gcP (by decide)), (List.forall_mem_cons.mpr ⟨(tag_ne N (List.mem_of_getElem? (i := 20) rfl) (List.mem_of_getElem? (i := 18) rfl) g50 gcP (by decide)), (List.forall_mem_cons.mpr ⟨hTP, (List.forall_mem_cons.mpr ⟨(tag_ne N (List.mem_of_getElem? (i := 6) rfl) (List.mem_of_getElem? (i := 18) rfl) gbb gcP (by decide)), (List.forall_mem_cons.mpr ⟨(tag_ne N (List.mem_of_getElem? (i := 5) rfl) (List.mem_of_getElem? (i := 18) rfl) gDB gcP (by decide)), (List.forall_mem_cons.mpr ⟨(tag_ne N (List.mem_of_getElem? (i := 21) rfl) (List.mem_of_getElem? (i := 18) rfl) g90 gcP (by decide)), (List.forall_mem_cons.mpr ⟨(tag_ne N (List.mem_of_getElem? (i := 9) rfl) (List.mem_of_getElem? (i := 18) rfl) gFa gcP (by decide)), (List.forall_mem_cons.mpr ⟨(tag_ne N (List.mem_of_getElem? (i := 10) rfl) (List.mem_of_getElem? (i := 18) rfl) gcF gcP (by decide)), (List.forall_mem_cons.mpr ⟨(Ne.symm hPM), (List.forall_mem_cons.mpr ⟨(tag_ne N (List.mem_of_getElem? (i := 0) rfl) (List.mem_of_getElem? (i := 18) rfl) gl gcP (by decide)), (fun _ q => absurd q List.not_mem_nil)⟩)⟩)⟩)⟩)⟩)⟩)⟩)⟩)⟩)⟩)⟩)⟩)
  have turn := turn H4 H5 HT HP hSta dM
  have N' : News h₀ env.locals s.heap ((l, W.listOf ws.toArray 0) :: LNews M b DD cT cP bb DB Fa cF cM oF oC oM o9 oT oP [] 0 #[⟨hashStr w "b", .str "b" t0, .ref f0⟩] 1 none 0 none tT 0 [⟨.inl "b", .str "b" t0, .ref f0, r0⟩] []) := by
    refine news_sub N ?_
    intro q hq
    simp only [List.mem_cons, List.map_cons, List.map_nil, List.nil_append, List.cons_append, List.not_mem_nil, or_false] at hq
    rcases hq with rfl | rfl | rfl | rfl | rfl | rfl | rfl | rfl | rfl | rfl | rfl | rfl | rfl | rfl | rfl
    all_goals first | exact .head _ | skip
    all_goals (repeat (first | exact List.Mem.head _ | refine List.Mem.tail _ ?_))
  refine iter_new (LawJ prog w M b DD cT cP bb DB Fa cF cM oF oC oM o9) hh F N' ?_ ?_ ?_
  · refine ⟨none, [], 0, _, 1, 0, none, tT, 0, _, [], oT, oP, vP, u, rfl, ?_, dT, dP, ?_, bk_first, ?_, ?_, Nat.le_refl _, Nat.le_refl _, ?_⟩
    · rw [hm₀]; funext y
      by_cases h1 : y = "frozen"
      · subst h1; rfl
      · by_cases h2 : y = "book"
        · subst h2; rfl
        · simp only [h1, h2, if_false]
    · exact fun h _ => ⟨fun _ _ _ e => (nomatch e), fun _ e => (nomatch e)⟩
    · intro x hx; rw [List.mem_singleton.mp hx]; simp [isKey, Value.isStrOf]
    · intro x hx; rw [List.mem_singleton.mp hx]; exact ⟨_, rfl⟩
    · intro q hq
      simp only [List.mem_cons, List.map_cons, List.map_nil, List.nil_append, List.cons_append, List.not_mem_nil, or_false] at hq
      rcases hq with rfl | rfl
      · exact htT
      · exact hr0
  · rintro i v m₁ news₁ h tk oI oL hv ⟨fz, vs, n, es, ep, dn, tb, tT, tn, rows, fzL, oT, oP, vP, u, rfl, rfl, c1, c2, c3, c4, c5, c6, c7, c8, c9⟩ ho F₁ N₁
    obtain ⟨k, t, rfl, hk⟩ := hI.at i v hv
    exact turn i k t _ h tk oI oL fz vs n es ep dn tb tT tn rows fzL oT oP vP u (List.getElem?_eq_some_iff.mp hk).1 c1 c2 c3 c4 c5 c6 c7 c8 c9 ho F₁ N₁
  · rintro m₁ news₁ h tk ⟨fz, vs, n, es, ep, dn, tb, tT, tn, rows, fzL, oT, oP, vP, u, rfl, rfl, c1, c2, c3, c4, c5, c6, c7, c8, c9⟩ F₁ N₁
    exact done _ h tk tb F₁ (news_sub N₁ fun q hq => by
      rcases List.mem_cons.mp hq with rfl | hq
      · exact .tail _ (.tail _ (.tail _ (.head _)))
      · rw [List.mem_singleton.mp hq]; exact .tail _ (.tail _ (.tail _ (.tail _ (.tail _ (.tail _ (.tail _ (.tail _ (.head _)))))))))
end
end Mine
end

section
open PySem PySem.W PyProof.Rows PySem.Calls
set_option maxRecDepth 100000
set_option maxHeartbeats 40000000
section
open Mine
local macro_rules | `(tactic| k_room) => `(tactic| (simp only [depth_deeper, recursionLimit] at *; omega))
local macro_rules | `(tactic| k_all) => `(tactic| assumption)
local macro_rules | `(tactic| kqd_all) => `(tactic| first | assumption | exact (fun _ hp => absurd hp List.not_mem_nil) | (refine all_cons ?a ?b; (case a => first | assumption | k_ne | omega); (case b => kqd_all)))
local macro_rules | `(tactic| walk_at "call builtin:len") => `(tactic| (k_here; (with_reducible show wpAny _ _ (call (Value.builtin "len") [Value.ref _]) _ _ _); refine len_list (News.isList (by k_asm) (by k_mem)) (by (simp only [Array.size_push, List.size_toArray, List.length_append, List.length_cons, List.length_nil]; omega)) ?_))
local macro_rules | `(tactic| kqd_sub) => `(tactic| first | exact (fun _ hp => absurd hp (List.not_mem_nil)) | (refine List.forall_mem_cons.mpr ⟨?a, ?b⟩; (case a => k_mem); (case b => kqd_sub)))
local macro_rules | `(tactic| kqd_in) => `(tactic| first | exact (fun _ hp => absurd hp (List.not_mem_nil)) | assumption | (refine List.forall_mem_cons.mpr ⟨?a, ?b⟩; (case a => first | assumption | exact ne_four (by k_ne) (by k_ne) (by k_ne) (by k_ne)); (case b => kqd_in)))
local macro_rules | `(tactic| fin_places) => `(tactic| first | assumption | ((try simp only [decide_eq_true_eq, beq_iff_eq, bne_iff_ne, ne_eq, List.size_toArray, List.length_append, List.length_cons, List.length_nil, fm5n]); omega))
local macro_rules | `(tactic| walk_at "getMethod ref") => `(tactic| (k_here; k_dflt (show Hold (wpAny _ _ (getMethod (Value.ref _) _ _) _ _ _))))
local macro_rules | `(tactic| walk_at "call builtin:dict.pop") => `(tactic| (k_here; k_dflt (show Hold (wpAny _ _ (call (Value.builtin "dict.pop") _) _ _ _))))
local macro_rules | `(tactic| walk_at "call builtin:dict.get") => `(tactic| (k_here; k_dflt (show Hold (wpAny _ _ (call (Value.builtin "dict.get") _) _ _ _))))
local macro_rules | `(tactic| walk_at "call builtin:dict.setdefault") => `(tactic| (k_here; k_dflt (show Hold (wpAny _ _ (call (Value.builtin "dict.setdefault") _) _ _ _))))
local macro_rules | `(tactic| walk_at "compareOp NotEq ref ref") => `(tactic| (k_here; k_dflt (show Hold (wpAny _ _ (compareOp CmpOp.NotEq (Value.ref _) (Value.ref _)) _ _ _))))
local macro_rules | `(tactic| walk_at "eval ListComp") => `(tactic| (k_here; k_dflt (show Hold (wpAny _ _ (eval (PySem.Expr.ListComp _ _ _ _) _) _ _ _))))
local macro_rules | `(tactic| walk_at "ite") => `(tactic| (k_here; first | refine ite_pos (by fin_places) ?_ | refine ite_neg (by fin_places) ?_))
local macro_rules | `(tactic| walk_at "call ref") => `(tactic| (k_here; k_dflt (show Hold (wpAny _ _ (call (Value.ref _) _) _ _ _))))
local macro_rules | `(tactic| walk_at "subscriptTail") => `(tactic| (k_here; k_dflt (show Hold (wpAny _ _ (subscriptTail _ _ _ _) _ _ _))))
local macro_rules | `(tactic| walk_at "execs cons") => `(tactic| (k_here; (with_reducible show wpAny _ _ (execs (Stmt.Assign [PySem.Expr.Name _ _] (PySem.Expr.ListComp _ _ _ _) _ :: _) _) _ _ _); k_dflt (show Hold (wpAny _ _ (execs _ _) _ _ _))))
local macro_rules | `(tactic| walk_at "exec Assign") => `(tactic| (k_here; (with_reducible show wpAny _ _ (exec (Stmt.Assign [PySem.Expr.Name _ _] (PySem.Expr.ListComp _ _ _ _) _) _) _ _ _); k_dflt (show Hold (wpAny _ _ (exec _ _) _ _ _))))
namespace Mine
theorem step_call {w : World} {A₀ : Around} {dep un : Nat} {gd : Option (List Code)} {base h₀ : Heap} {outer : List Env} {env : Env} {L : Addr} {m mg mb : Str → Option Value}
  {Fa M b DD tT : Addr} {fz : Fz} {tb : Option Addr} {es : Array DictEntry} {ep dn tn : Nat} {rows : List Row} {vs : List Value} {n : Nat} {fzL : List (Addr × Obj)} {i : Int} {t : Tok} {s : Shared} {p : Program} {loose : List Str} {mean : ExcName → Option Value} {R : Result → Shared → Prop}
  (B : Below A₀ base outer h₀) (F : Fr h₀ L s.heap m) (N : News h₀ L s.heap [(M, W.listOf vs.toArray n), (b, bobj DD (some (.ref Fa)) es ep), (DD, ddo fz dn), (50, tabObj (tabOf tb))]) (T : Top p loose mean mg mb h₀)
  (NR : News h₀ L s.heap ((tT, W.listOf (tabIts rows) tn) :: (rowsL rows ++ fzL)))
  (hdis : ∀ q ∈ (tT, W.listOf (tabIts rows) tn) :: (rowsL rows ++ fzL), q.1 ∉ [M, b, DD, 50])
  (D : KtsDicts (outer.filterMap (·.frame)) h₀) (TB : Top p loose mean mg mb base) (C5 : CodeHd base 54 50)
  (hfr : env.frame = some L) (hke : env.scope.kind = .function)
  (hbM : b ≠ M) (hDM : DD ≠ M) (hM5 : M ≠ 50) (hbD : b ≠ DD) (hb5 : b ≠ 50) (hD5 : DD ≠ 50) (hbs : (b == sysModules) = false) (S : ∀ g : Heap, (∀ a o, s.heap.get? a = some o → a ∉ [M, b, DD, 50] → g.get? a = some o) → Sta g Fa M) (Z : FzOk fzL fz tb b)
  (I : Bk PySem.Challenge.rw_il0026_01.row.prog w es (kvsOf rows)) (hkeys : ∀ x ∈ rows, isKey x.key x.kv = true) (hrefs : ∀ x ∈ rows, ∃ a, x.th = .ref a) (hsz : rows.length ≤ 500)
  (hdep : dep ≤ 510) (hun : un + 200 < cLine) (hvs : vs.length ≤ 60)
  (hok : StepOk PySem.Challenge.rw_il0026_01.row.prog w A₀ base outer h₀ L m s M b DD Fa tT tn rows fzL vs i R) : (hd.heap_39 w.params).In h₀ → (hd.heap_39 w.params).In base → 
  codeAny (model PySem.Challenge.rw_il0026_01.row.prog w) ⟨none, dep, some (env :: outer), gd, un⟩ (.call (.ref 88) ⟨[.ref b, .ref tT, .bool fz.isSome, .ref M, .int i t], []⟩) R s := by
  w_top off
  k_fill
  intro X₀ XB
  refine' gdefC ?k1 ?k2 ?k3 ?k4 ?kD ?k5 ?kA ?kF ?kK ?k6 ?k7 ?k8 ?k9 ?kB ?kn ?_ ?c1 ?c2 ?c3
  case kA => exact rfl
  case kF => exact hfr
  case kK => exact hke
  case k1 => exact B
  case k2 => exact F
  case k3 => exact X₀
  case k4 => exact N
  case kD => exact D
  case k5 => exact T
  case k6 => k_is
  case k7 => k_is
  case k8 => show dep < _; k_room
  case k9 => first | exact binds_K (by k_in) rfl (by k_is) rfl rfl rfl | exact BindsTo.of_eq rfl
  case kB => exact rfl
  case kn => decide
  case c1 => exact rfl
  case c2 => exact rfl
  case c3 => exact rfl
  intro g' L' h₁ tk cells FG' F' N' Y' B' X' T' D' l1 kg
  have gT : g'.get? tT = some (W.listOf (tabIts rows) tn) := kg _ _ (NR _ (.head _)).1 (hdis _ (.head _))
  have gR : ∀ x ∈ rows, g'.get? x.r = some (rowObj x) := fun x hx => by
    have hm : (x.r, rowObj x) ∈ (tT, W.listOf (tabIts rows) tn) :: (rowsL rows ++ fzL) := .tail _ (List.mem_append_left _ (List.mem_map_of_mem hx))
    exact kg _ _ (NR _ hm).1 (hdis _ hm)
  have gZ := Z g' fun q hq => by
    have hm : q ∈ (tT, W.listOf (tabIts rows) tn) :: (rowsL rows ++ fzL) := .tail _ (List.mem_append_right _ hq)
    exact kg _ _ (NR _ hm).1 (hdis _ hm)
  have S' := S g' kg
  have hfT : tT ∉ (env :: outer).filterMap (·.frame) := fun q => by
    rcases gmem hfr q with z | z
    · exact (NR _ (.head _)).2.1 z
    · obtain ⟨o, _, _, e, _⟩ := D _ z
      have := (NR _ (.head _)).2.2
      rw [e] at this; cases this
  k_lt l1
  have hY := CellsAre.two Y'
  obtain ⟨o1, o2, hE', d1, d2⟩ := hY
  subst hE'
  clear Y'
  (try simp only [List.cons_append, List.nil_append] at N')
  try dsimp only
  k_steps
  obtain ⟨kv, ex, hkv⟩ := key_at i _ _ _ _ _
  refine item_at (News.isList (by assumption) (.head _)) (key_range i).1 (Int.lt_trans (key_range i).2 (by decide)) ex ?_ (by with_unfolding_all rfl)
  k_steps
  with_reducible rename Fr _ _ _ _ => F1
  with_reducible rename News _ _ _ _ => N1
  with_reducible rename Obj.data _ = Data.cell (some kv) => dk
  with_reducible rename Obj.data _ = Data.cell (some (Value.ref _)) => dh
  obtain ⟨hnd, hh9⟩ : ∃ hnd, Data.cell (some (Value.ref hnd)) = _ := ⟨_, dh.symm⟩
  have e9 := hh9.trans dh
  injection e9 with e9
  injection e9 with e9
  injection e9 with e9
  subst e9
  clear hh9
  refine wpAny_execs_cons (found_comp (cc := L' + 1) (ax := tT) (rows := rows) (k := keyAt i) F1.ns rfl rfl rfl rfl rfl rfl (N1.get (.tail _ (.tail _ (.tail _ (.tail _ (.head _)))))) dk hkv (fun Q' hq => wpAny_Name (wpAny_loadName_local rfl rfl F1.ns rfl hq)) ⟨_, F1.keep _ _ gT, rfl, _, rfl⟩ (Nat.le_trans hsz (by decide)) (rows_at (fun x hx => F1.keep _ _ (gR x hx)) hkeys) ?_)
  intro D1 h1 tk1 hn1 k1 e1 n1
  have F2 := fr_upd F1 hn1 k1
  replace e1 : h1.get? D1 = some (W.listOf ((rows.filter fun x => decide (x.key = keyAt i)).map (·.th)).toArray ((rows.filter fun x => decide (x.key = keyAt i)).map (·.th)).length) := e1
  have N2 := add_new F1 N1 k1 e1 n1
  have hD1 := front4 (pre := [_, _, _, _, _]) (new_ne N1 n1)
  clear F1 N1 e1 n1 k1 hn1
  refine wpAny_execs_cons (others_comp (cc := L' + 1) (ax := tT) (rows := rows) (k := keyAt i) F2.ns rfl rfl rfl rfl rfl rfl (N2.get (.tail _ (.tail _ (.tail _ (.tail _ (.tail _ (.head _))))))) dk hkv (fun Q' hq => wpAny_Name (wpAny_loadName_local rfl rfl F2.ns rfl hq)) ⟨_, F2.keep _ _ gT, rfl, _, rfl⟩ (Nat.le_trans hsz (by decide)) (rows_at (fun x hx => F2.keep _ _ (gR x hx)) hkeys) ?_)
  intro D2 nr h2 tk2 hn2 k2 e2 n2 hnr ho
  have F3 := fr_upd F2 hn2 k2
  replace e2 : h2.get? D2 = some (W.listOf (tabIts nr) (nr.map fun x : Row => Value.ref x.r).length) := e2
  have N3 := add_tab F2 N2 k2 e2 n2 ho
  simp only [List.cons_append, List.nil_append] at N3
  have hD2 := front4 (pre := [_, _, _, _, _, _]) (new_ne N2 n2)
  have hRn : ∀ q ∈ rowsL nr, q.1 ∉ [M, b, DD, 50] := fun q hq => by
    obtain ⟨x, hx, rfl⟩ := List.mem_map.mp hq
    exact front4 (pre := [_, _, _, _, _, _]) (new_ne N2 (ho x hx).2.1)
  clear F2 N2 e2 n2 k2 hn2 ho
  obtain ⟨hD1M, hD1b, hD1D, hD15⟩ := four_ne hD1
  obtain ⟨hD2M, hD2b, hD2D, hD25⟩ := four_ne hD2
  have hRM : ∀ q ∈ rowsL nr, q.1 ≠ M := fun q hq => (four_ne (hRn q hq)).1
  have hRb : ∀ q ∈ rowsL nr, q.1 ≠ b := fun q hq => (four_ne (hRn q hq)).2.1
  have hRD : ∀ q ∈ rowsL nr, q.1 ≠ DD := fun q hq => (four_ne (hRn q hq)).2.2.1
  have hR5 : ∀ q ∈ rowsL nr, q.1 ≠ 50 := fun q hq => (four_ne (hRn q hq)).2.2.2
  have hM5' := hM5.symm
  have hMb' := hbM.symm
  have hMD' := hDM.symm
  have hDb' := hbD.symm
  have h5b' := hb5.symm
  have h5D' := hD5.symm
  have hmn : ∀ x ∈ nr, ∃ y ∈ rows, trip x = trip y := fun x hx => by
    have hm : trip x ∈ (rows.filter fun x => !decide (x.key = keyAt i)).map trip := hnr ▸ List.mem_map_of_mem hx
    obtain ⟨y, hy, e⟩ := List.mem_map.mp hm
    exact ⟨y, (List.mem_filter.mp hy).1, e.symm⟩
  have hkn : ∀ x ∈ nr, isKey x.key x.kv = true := fun x hx => by
    obtain ⟨y, hy, e⟩ := hmn x hx
    simp only [trip, Prod.mk.injEq] at e
    rw [e.1, e.2.1]; exact hkeys y hy
  have hrn : ∀ x ∈ nr, ∃ a, x.th = .ref a := fun x hx => by
    obtain ⟨y, hy, e⟩ := hmn x hx
    simp only [trip, Prod.mk.injEq] at e
    rw [e.2.2]; exact hrefs y hy
  have hln : nr.length ≤ rows.length + 1 := by
    have := congrArg List.length hnr
    simp only [List.length_map] at this
    rw [this]
    exact Nat.le_succ_of_le (List.length_filter_le _ _)
  have hlen : (kvsOf rows).length ≤ 1000 := by simp only [kvsOf, List.length_map]; omega
  dsimp only
  have h8 : i.fmod 8 < 3 ∨ i.fmod 8 = 3 ∨ i.fmod 8 = 4 ∨ i.fmod 8 = 5 ∨ i.fmod 8 = 6 ∨ i.fmod 8 = 7 := by
    have h80 : 0 ≤ i.fmod 8 := Int.fmod_nonneg_of_pos _ (by decide)
    have h81 : i.fmod 8 < 8 := Int.fmod_lt_of_pos _ (by decide)
    omega
  cases hv : valueAt (kvsOf rows) (keyAt i) with
  | none =>
    have hf := filt_none hv
    simp only [hf, List.map_nil, List.length_nil] at N3
    rcases h8 with h8 | h8 | h8 | h8 | h8 | h8
    · k_steps
      have N4 := news_front (pre := [_, _, _, _, _, _, _]) N3
      simp only [List.cons_append, List.nil_append] at N4
      refine wpAny_call (looked_call (dep := dep + 1) (fz := fz) (dn := dn) B' F3 N4 T' D' TB rfl rfl (by k_mem) ?pM ?pb hbM hbs S' (fun hh u fl e => gZ.1 hh u fl e) I hkv hlen (by omega) (show un + 3 + 100 < cLine by omega) hvs ?_ ?_ ?_ X' XB)
      case pM => kqd_all
      case pb => kqd_all
      · intro v _ _ _ e
        rw [hv] at e; cases e
      · intro l h5 t5 u5 es' ep' g5 _ q5 KT F5 N5 B5 D5 I5 o5
        dsimp only
        have X5 := XB.keeps B5.stays
        have T5 := TB.keeps B5.stays
        clear F3 N3 N4 B' X' T' D'
        k_steps
        refine ne_nil (News.isList (a := D1) (by assumption) (by k_mem)) (News.isList (by assumption) (.head _)) (show un + 3 < cLine by omega) ?_
        k_steps
        refine item_last (News.isList (by assumption) (.tail _ (.tail _ (.head _)))) ?_ (by with_unfolding_all rfl)
        k_steps
        · refine' step_same (s := s) (more := []) (vs' := vs ++ [.ref l]) (rows := rows) (fz' := fz) (tb' := tb) hfr D NR hdis kg hok KT (by assumption) (news_sub (by assumption) ?n) ?ne Z ?I hkeys hrefs ?hv ?hs
          case n => kqd_sub
          case ne => kqd_in
          case I => rename Option.isSome fz = true => q; rw [if_pos q] at I5; exact I5
          case hv => simp
          case hs => intro q; exfalso; omega
        · with_reducible rename News _ _ _ _ => N6
          with_reducible rename Fr _ _ _ _ => F6
          have hr6 := N6 _ (.head _)
          refine tab_add (rows := rows) ⟨keyAt i, kv, .ref l, _⟩ F6 N6 ⟨_, F6.keep _ _ (KT.other _ _ gT hfT), rfl, _, rfl⟩ (News.isList N6 (.head _)) hsz ?_
          intro D9 h9 F9 N9 l9
          clear F6 N6
          k_lt l9
          k_steps
          refine' step_new (s := s) (old := rows) (new := [⟨keyAt i, kv, .ref l, _⟩]) (vs' := vs ++ [.ref l]) (rows := rows) (fz' := fz) (tb' := tb) hfr D NR hdis kg hok KT (by assumption) (news_sub (by assumption) ?n) (fun _ q => q) ?ne Z ?I ?hk ?hr ?hl ?hv ?hs
          case n => kqd_sub
          case ne => kqd_in
          case I => rename Option.isSome fz = false => q; rw [if_neg (by rw [q]; decide)] at I5; simpa [kvsOf] using I5
          case hk => intro x hx; rcases List.mem_append.mp hx with hx | hx; exact hkeys x hx; rw [List.mem_singleton.mp hx]; exact hkv
          case hr => intro x hx; rcases List.mem_append.mp hx with hx | hx; exact hrefs x hx; rw [List.mem_singleton.mp hx]; exact ⟨_, rfl⟩
          case hl => simp
          case hv => simp
          case hs => intro q; exfalso; omega
      · intro l h5 t5 u5 u6 g5 _ q5 KT F5 N5 B5 D5 o5
        dsimp only
        have X5 := XB.keeps B5.stays
        have T5 := TB.keeps B5.stays
        clear F3 N3 N4 B' X' T' D'
        k_steps
        refine ne_nil (News.isList (a := D1) (by assumption) (by k_mem)) (News.isList (by assumption) (.head _)) (show un + 3 < cLine by omega) ?_
        k_steps
        refine' step_same (s := s) (more := []) (vs' := vs ++ [.ref l]) (rows := rows) (fz' := fz) (tb' := tb) hfr D NR hdis kg hok KT (by assumption) (news_sub (by assumption) ?n) ?ne Z I hkeys hrefs ?hv ?hs
        case n => kqd_sub
        case ne => kqd_in
        case hv => simp
        case hs => intro q; exfalso; omega
    · k_steps
      have N4 := news_front1 (pre := [_, _, _, _, _, _, _, _]) N3
      simp only [List.cons_append, List.nil_append] at N4
      refine wpAny_call (put_call (dep := dep + 1) B' F3 N4 T' rfl rfl ?pb I hkv hlen (by omega) ?_ X')
      case pb => kqd_all
      intro h6 t6 es' ep' F6 N6 I6
      dsimp only
      clear F3 N3 N4
      k_steps
      refine ne_nil (News.isList (a := D1) (by assumption) (by k_mem)) (News.isList (by assumption) (.head _)) (show un + 3 < cLine by omega) ?_
      k_steps
      with_reducible rename News _ _ _ _ => N7
      with_reducible rename Fr _ _ _ _ => F7
      have hr7 := N7 _ (.head _)
      refine tab_add (rows := rows) ⟨keyAt i, kv, .ref hnd, _⟩ F7 N7 ⟨_, F7.keep _ _ gT, rfl, _, rfl⟩ (News.isList N7 (.head _)) hsz ?_
      intro D9 h9 F9 N9 l9
      clear F7 N7
      k_lt l9
      k_steps
      refine' step_new (s := s) (old := rows) (new := [⟨keyAt i, kv, .ref hnd, _⟩]) (vs' := vs) (rows := rows) (fz' := fz) (tb' := tb) hfr D NR hdis kg hok KtsTurn.refl (by assumption) (news_sub (by assumption) ?n) (fun _ q => q) ?ne Z ?I ?hk ?hr ?hl ?hv ?hs
      case n => kqd_sub
      case ne => kqd_in
      case I => rw [stored_new hv] at I6; simpa [kvsOf] using I6
      case hk => intro x hx; rcases List.mem_append.mp hx with hx | hx; exact hkeys x hx; rw [List.mem_singleton.mp hx]; exact hkv
      case hr => intro x hx; rcases List.mem_append.mp hx with hx | hx; exact hrefs x hx; rw [List.mem_singleton.mp hx]; exact ⟨_, rfl⟩
      case hl => simp
      case hv => exact Nat.le_succ _
      case hs => intro _; rfl
    · k_steps
      refine b_method (X'.keeps F3.keep) (N3.get (.tail _ (.tail _ (.tail _ (.tail _ (.tail _ (.tail _ (.tail _ (.tail _ (.head _)))))))))) (N3.get (.tail _ (.tail _ (.tail _ (.tail _ (.tail _ (.tail _ (.tail _ (.tail _ (.tail _ (.head _))))))))))) (fk_pop _) tm_pop dl_pop ?_
      k_steps
      refine wpAny_call (c_pop (X'.keeps F3.keep) (N3.get (.tail _ (.tail _ (.tail _ (.tail _ (.tail _ (.tail _ (.tail _ (.tail _ (.head _)))))))))) I hkv hlen hbs ?_ ?_)
      · intro v _ _ _ e
        rw [hv] at e; cases e
      · intro _
        dsimp only
        k_steps
        refine item_at (x := .none) (News.isList (by assumption) (.head _)) (by decide) (by decide) rfl ?_ (by with_unfolding_all rfl)
        k_steps
        refine' step_new (s := s) (old := []) (new := nr) (vs' := vs) (rows := rows) (fz' := fz) (tb' := tb) hfr D NR hdis kg hok KtsTurn.refl (by assumption) (news_app (l := [_, _, _, _, _, _]) (news_sub (by assumption) ?n) ?nr) (fun _ hx => absurd hx List.not_mem_nil) ?ne Z ?I ?hk ?hr ?hl ?hv ?hs
        case n => kqd_sub
        case nr => exact news_sub (by assumption) (fun q hq => .tail _ (.tail _ (.tail _ (.tail _ (.tail _ (.tail _ (.tail _ (.tail _ (.tail _ (.tail _ (.tail _ (.tail _ (.tail _ (.tail _ hq))))))))))))))
        case ne => kqd_in
        case I => show Bk _ _ _ (kvsOf nr); rw [without_rows hnr, without_of_not_mem _ _ (not_mem_of_none hv)]; exact I
        case hk => exact hkn
        case hr => exact hrn
        case hl => exact hln
        case hv => exact Nat.le_succ _
        case hs => intro _; rfl
    · k_steps
      refine b_methodF (X'.keeps F3.keep) (N3.get (.tail _ (.tail _ (.tail _ (.tail _ (.tail _ (.tail _ (.tail _ (.tail _ (.head _)))))))))) (N3.get (.tail _ (.tail _ (.tail _ (.tail _ (.tail _ (.tail _ (.tail _ (.tail _ (.tail _ (.head _))))))))))) (fk_freeze _) (fk_freeze_t _) dl_freeze ?_
      k_steps
      have N4 := news_sub (l' := [(50, tabObj (tabOf tb)), (DD, ddo fz dn), (b, bobj DD (some (.ref Fa)) es ep), (M, W.listOf vs.toArray n)]) N3 (by kqd_sub)
      refine wpAny_call (freeze_call (dep := dep + 1) (post := [(M, W.listOf vs.toArray n)]) B' F3 N4 T' C5 rfl rfl (by kqd_all) (by kqd_all) (by kqd_all) hD5 hb5 hbD gZ.2 (by omega) ?_ X')
      intro h6 t6 c fl hh u dn' more F6 N6 hm hZ
      have N7 := news_more N6
      dsimp only
      clear F3 N3 N4 N6
      k_steps
      with_reducible rename News _ _ _ _ => N9
      have N9' := news_end N9
      refine' step_same (s := s) (more := more) (vs' := vs) (rows := rows) (fz' := some (hh, u, fl)) (tb' := some c) hfr D NR hdis kg hok KtsTurn.refl (by assumption) N9' ?ne ?Z I hkeys hrefs ?hv ?hs
      case ne =>
        intro q hq
        rcases List.mem_cons.mp hq with rfl | hq
        · exact ne_four (by k_ne) (by k_ne) (by k_ne) (by k_ne)
        · obtain ⟨a1, a2, a3, a4⟩ := hm q hq
          exact ne_four (Nat.ne_of_gt (a4 _ (.head _))) (Nat.ne_of_gt a1) (Nat.ne_of_gt a2) (Nat.ne_of_gt a3)
      case Z =>
        intro h hall
        have k0 := Z h fun q hq => hall q (List.mem_append_right _ hq)
        obtain ⟨f1, f2⟩ := hZ h (fun c' e => k0.2 c' e) fun q hq => hall q (List.mem_append_left _ hq)
        exact ⟨fun hh' u' fl' e => by cases e; exact f1, fun c' e => by cases e; exact f2⟩
      case hv => exact Nat.le_succ _
      case hs => intro _; rfl
    · k_steps
      refine b_method (X'.keeps F3.keep) (N3.get (.tail _ (.tail _ (.tail _ (.tail _ (.tail _ (.tail _ (.tail _ (.tail _ (.head _)))))))))) (N3.get (.tail _ (.tail _ (.tail _ (.tail _ (.tail _ (.tail _ (.tail _ (.tail _ (.tail _ (.head _))))))))))) (fk_get _) tm_get dl_get ?_
      k_steps
      refine wpAny_call (c_get (X'.keeps F3.keep) (N3.get (.tail _ (.tail _ (.tail _ (.tail _ (.tail _ (.tail _ (.tail _ (.tail _ (.head _)))))))))) I hkv hbs ?_)
      rw [hv]
      dsimp only [Option.getD]
      k_steps
      refine item_at (x := .none) (News.isList (by assumption) (.head _)) (by decide) (by decide) rfl ?_ (by with_unfolding_all rfl)
      k_steps
      with_reducible rename Fr _ _ _ _ => F6
      with_reducible rename News _ _ _ _ => N6
      refine b_in (X'.keeps F6.keep) (N6.get (by k_mem : (b, bobj DD (some (.ref Fa)) es ep) ∈ _)) I hkv hbs ?_
      rw [hv]
      dsimp only [Option.isSome]
      k_steps
      refine ne_nil (News.isList (a := D1) (by assumption) (by k_mem)) (News.isList (by assumption) (.head _)) (show un + 3 < cLine by omega) ?_
      k_steps
      refine' step_same (s := s) (more := []) (vs' := vs) (rows := rows) (fz' := fz) (tb' := tb) hfr D NR hdis kg hok KtsTurn.refl (by assumption) (news_sub (by assumption) ?n) ?ne Z I hkeys hrefs ?hv ?hs
      case n => kqd_sub
      case ne => kqd_in
      case hv => exact Nat.le_succ _
      case hs => intro _; rfl
    · k_steps
      refine b_method (X'.keeps F3.keep) (N3.get (.tail _ (.tail _ (.tail _ (.tail _ (.tail _ (.tail _ (.tail _ (.tail _ (.head _)))))))))) (N3.get (.tail _ (.tail _ (.tail _ (.tail _ (.tail _ (.tail _ (.tail _ (.tail _ (.tail _ (.head _))))))))))) (fk_setdefault _) tm_setdefault dl_setdefault ?_
      k_steps
      refine wpAny_call (c_setdefault (X'.keeps F3.keep) (N3.get (.tail _ (.tail _ (.tail _ (.tail _ (.tail _ (.tail _ (.tail _ (.tail _ (.head _)))))))))) I hkv hlen hbs ?_ ?_)
      · intro v e
        rw [hv] at e; cases e
      · intro _ h6 es' ep' g6 I6 s6
        have m6 := N3 _ (.tail _ (.tail _ (.tail _ (.tail _ (.tail _ (.tail _ (.tail _ (.tail _ (.head _)))))))))
        have F6 := F3.change s6 m6.2.1 m6.2.2
        have N6 := News.setAt (own := [_, _, _, _, _, _, _, _]) N3 (by kqd_all) (by kqd_all) s6 g6
        simp only [List.cons_append, List.nil_append] at N6
        clear F3 N3 m6
        dsimp only
        k_steps
        refine item_at (x := .ref _) (News.isList (by assumption) (.head _)) (by decide) (by decide) rfl ?_ (by with_unfolding_all rfl)
        refine wpAny_is_ref_self ?_
        k_steps
        refine ne_nil (News.isList (a := D1) (by assumption) (by k_mem)) (News.isList (by assumption) (.head _)) (show un + 3 < cLine by omega) ?_
        k_steps
        with_reducible rename News _ _ _ _ => N7
        with_reducible rename Fr _ _ _ _ => F7
        have hr7 := N7 _ (.head _)
        refine tab_add (rows := rows) ⟨keyAt i, kv, .ref hnd, _⟩ F7 N7 ⟨_, F7.keep _ _ gT, rfl, _, rfl⟩ (News.isList N7 (.head _)) hsz ?_
        intro D9 h9 F9 N9 l9
        clear F7 N7
        k_lt l9
        k_steps
        refine' step_new (s := s) (old := rows) (new := [⟨keyAt i, kv, .ref hnd, _⟩]) (vs' := vs) (rows := rows) (fz' := fz) (tb' := tb) hfr D NR hdis kg hok KtsTurn.refl (by assumption) (news_sub (by assumption) ?n) (fun _ q => q) ?ne Z ?I ?hk ?hr ?hl ?hv ?hs
        case n => kqd_sub
        case ne => kqd_in
        case I => simpa [kvsOf] using I6
        case hk => intro x hx; rcases List.mem_append.mp hx with hx | hx; exact hkeys x hx; rw [List.mem_singleton.mp hx]; exact hkv
        case hr => intro x hx; rcases List.mem_append.mp hx with hx | hx; exact hrefs x hx; rw [List.mem_singleton.mp hx]; exact ⟨_, rfl⟩
        case hl => simp
        case hv => exact Nat.le_succ _
        case hs => intro _; rfl
  | some v =>
    have hf := filt_some I.nodup hv
    obtain ⟨x₀, hx₀, hxk, hxv⟩ := row_some hv
    obtain ⟨fa, hfa⟩ := hrefs x₀ hx₀
    obtain rfl : v = .ref fa := hxv.symm.trans hfa
    simp only [hf, List.length_cons, List.length_nil] at N3
    rcases h8 with h8 | h8 | h8 | h8 | h8 | h8
    · k_steps
      have N4 := news_front (pre := [_, _, _, _, _, _, _]) N3
      simp only [List.cons_append, List.nil_append] at N4
      refine wpAny_call (looked_call (dep := dep + 1) (fz := fz) (dn := dn) B' F3 N4 T' D' TB rfl rfl (by k_mem) ?pM ?pb hbM hbs S' (fun hh u fl e => gZ.1 hh u fl e) I hkv hlen (by omega) (show un + 3 + 100 < cLine by omega) hvs ?_ ?_ ?_ X' XB)
      case pM => kqd_all
      case pb => kqd_all
      · intro v h5 t5 g5 e5 KT F5 N5 B5 D5
        obtain rfl : v = .ref fa := Option.some.inj (e5.symm.trans hv)
        dsimp only
        have X5 := XB.keeps B5.stays
        have T5 := TB.keeps B5.stays
        clear F3 N3 N4 B' X' T' D'
        k_steps
        refine ne_one (News.isList (a := D1) (by assumption) (by k_mem)) (News.isList (by assumption) (.head _)) (show un + 3 < cLine by omega) ?_
        k_steps
        refine item_at (x := .ref fa) (News.isList (a := D1) (by assumption) (by k_mem)) (by decide) (by decide) rfl ?_ (by with_unfolding_all rfl)
        refine wpAny_is_ref_self ?_
        k_steps
        with_reducible rename News _ _ _ _ => N9
        simp only [beq_self_eq_true] at N9
        refine' step_same (s := s) (more := []) (vs' := vs) (rows := rows) (fz' := fz) (tb' := tb) hfr D NR hdis kg hok KT (by assumption) (news_sub (by assumption) ?n) ?ne Z I hkeys hrefs ?hv ?hs
        case n => kqd_sub
        case ne => kqd_in
        case hv => exact Nat.le_succ _
        case hs => intro _; rfl
      · intro l _ _ _ _ _ _ e
        rw [hv] at e; cases e
      · intro l _ _ _ _ _ e
        rw [hv] at e; cases e
    · k_steps
      have N4 := news_front1 (pre := [_, _, _, _, _, _, _, _]) N3
      simp only [List.cons_append, List.nil_append] at N4
      refine wpAny_call (put_call (dep := dep + 1) B' F3 N4 T' rfl rfl ?pb I hkv hlen (by omega) ?_ X')
      case pb => kqd_all
      intro h6 t6 es' ep' F6 N6 I6
      dsimp only
      clear F3 N3 N4
      k_steps
      refine ne_one (News.isList (a := D1) (by assumption) (by k_mem)) (News.isList (by assumption) (.head _)) (show un + 3 < cLine by omega) ?_
      k_steps
      with_reducible rename News _ _ _ _ => N7
      with_reducible rename Fr _ _ _ _ => F7
      refine put_comp (cc := L' + 1) (hc := L' + 1 + 1) (ax := tT) (rows := rows) (k := keyAt i) rfl rfl rfl rfl rfl (N7.get (by k_mem)) dk (N7.get (by k_mem)) dh hkv (fun Q' hq => wpAny_Name (wpAny_loadName_local rfl rfl F7.ns rfl hq)) ⟨_, F7.keep _ _ gT, rfl, _, rfl⟩ (Nat.le_trans hsz (by decide)) (rows_at (fun x hx => F7.keep _ _ (gR x hx)) hkeys) ?_
      intro D9 nr2 h9 tk9 k9 e9 n9 hnr2 ho9
      have F9 := F7.keeps k9
      replace e9 : h9.get? D9 = some (W.listOf (tabIts nr2) (nr2.map fun x : Row => Value.ref x.r).length) := e9
      have N8 := news_sub (l' := [(M, W.listOf vs.toArray n), (b, bobj DD (some (.ref Fa)) es' ep'), (DD, ddo fz dn), (50, tabObj (tabOf tb))]) N7 (by kqd_sub)
      have N9 := add_tab F7 N8 (fun c o _ e => k9 c o e) e9 n9 ho9
      simp only [List.cons_append, List.nil_append] at N9
      have hD9 := front4 (pre := []) (new_ne N8 n9)
      have hR9 : ∀ q ∈ rowsL nr2, q.1 ∉ [M, b, DD, 50] := fun q hq => by
        obtain ⟨x, hx, rfl⟩ := List.mem_map.mp hq
        exact front4 (pre := []) (new_ne N8 (ho9 x hx).2.1)
      clear F7 N7 N8 e9 n9 k9 ho9
      k_steps
      refine' step_new (s := s) (old := []) (new := nr2) (vs' := vs) (rows := rows) (fz' := fz) (tb' := tb) hfr D NR hdis kg hok KtsTurn.refl (by assumption) (news_app (l := [_, _, _, _, _, _]) (news_sub (by assumption) ?n) ?nr) (fun _ hx => absurd hx List.not_mem_nil) ?ne Z ?I ?hk ?hr ?hl ?hv ?hs
      case n => kqd_sub
      case nr => exact news_sub (by assumption) (fun q hq => .tail _ (.tail _ (.tail _ (.tail _ (.tail _ (.tail _ hq))))))
      case ne => kqd_in
      case I => show Bk _ _ _ (kvsOf nr2); rw [stored_rows hv hnr2]; exact I6
      case hk =>
        intro x hx
        obtain ⟨y, hy, e⟩ := trip_mem hnr2 x hx
        simp only [trip, Prod.mk.injEq] at e
        rw [e.1, e.2.1]; exact hkeys y hy
      case hr =>
        intro x hx
        obtain ⟨y, hy, e⟩ := trip_mem hnr2 x hx
        simp only [trip, Prod.mk.injEq] at e
        rw [e.2.2]
        split
        · exact ⟨_, rfl⟩
        · exact hrefs y hy
      case hl => exact Nat.le_succ_of_le (Nat.le_of_eq (by simpa using congrArg List.length hnr2))
      case hv => exact Nat.le_succ _
      case hs => intro _; rfl
    · k_steps
      refine b_method (X'.keeps F3.keep) (N3.get (.tail _ (.tail _ (.tail _ (.tail _ (.tail _ (.tail _ (.tail _ (.tail _ (.head _)))))))))) (N3.get (.tail _ (.tail _ (.tail _ (.tail _ (.tail _ (.tail _ (.tail _ (.tail _ (.tail _ (.head _))))))))))) (fk_pop _) tm_pop dl_pop ?_
      k_steps
      refine wpAny_call (c_pop (X'.keeps F3.keep) (N3.get (.tail _ (.tail _ (.tail _ (.tail _ (.tail _ (.tail _ (.tail _ (.tail _ (.head _)))))))))) I hkv hlen hbs ?_ ?_)
      · intro v h6 es' ep' e g6 I6 s6
        obtain rfl : v = .ref fa := Option.some.inj (e.symm.trans hv)
        have m6 := N3 _ (.tail _ (.tail _ (.tail _ (.tail _ (.tail _ (.tail _ (.tail _ (.tail _ (.head _)))))))))
        have F6 := F3.change s6 m6.2.1 m6.2.2
        have N6 := News.setAt (own := [_, _, _, _, _, _, _, _]) N3 (by kqd_all) (by kqd_all) s6 g6
        simp only [List.cons_append, List.nil_append] at N6
        clear F3 N3 m6
        dsimp only
        k_steps
        refine item_at (x := .ref fa) (News.isList (by assumption) (.head _)) (by decide) (by decide) rfl ?_ (by with_unfolding_all rfl)
        refine wpAny_is_ref_self ?_
        k_steps
        refine' step_new (s := s) (old := []) (new := nr) (vs' := vs) (rows := rows) (fz' := fz) (tb' := tb) hfr D NR hdis kg hok KtsTurn.refl (by assumption) (news_app (l := [_, _, _, _, _, _]) (news_sub (by assumption) ?n) ?nr) (fun _ hx => absurd hx List.not_mem_nil) ?ne Z ?I ?hk ?hr ?hl ?hv ?hs
        case n => kqd_sub
        case nr => exact news_sub (by assumption) (fun q hq => .tail _ (.tail _ (.tail _ (.tail _ (.tail _ (.tail _ (.tail _ (.tail _ (.tail _ (.tail _ (.tail _ (.tail _ (.tail _ (.tail _ hq))))))))))))))
        case ne => kqd_in
        case I => show Bk _ _ _ (kvsOf nr); rw [without_rows hnr]; exact I6
        case hk => exact hkn
        case hr => exact hrn
        case hl => exact hln
        case hv => exact Nat.le_succ _
        case hs => intro _; rfl
      · intro e
        rw [hv] at e; cases e
    · k_steps
      refine b_methodF (X'.keeps F3.keep) (N3.get (.tail _ (.tail _ (.tail _ (.tail _ (.tail _ (.tail _ (.tail _ (.tail _ (.head _)))))))))) (N3.get (.tail _ (.tail _ (.tail _ (.tail _ (.tail _ (.tail _ (.tail _ (.tail _ (.tail _ (.head _))))))))))) (fk_freeze _) (fk_freeze_t _) dl_freeze ?_
      k_steps
      have N4 := news_sub (l' := [(50, tabObj (tabOf tb)), (DD, ddo fz dn), (b, bobj DD (some (.ref Fa)) es ep), (M, W.listOf vs.toArray n)]) N3 (by kqd_sub)
      refine wpAny_call (freeze_call (dep := dep + 1) (post := [(M, W.listOf vs.toArray n)]) B' F3 N4 T' C5 rfl rfl (by kqd_all) (by kqd_all) (by kqd_all) hD5 hb5 hbD gZ.2 (by omega) ?_ X')
      intro h6 t6 c fl hh u dn' more F6 N6 hm hZ
      have N7 := news_more N6
      dsimp only
      clear F3 N3 N4 N6
      k_steps
      with_reducible rename News _ _ _ _ => N9
      have N9' := news_end N9
      refine' step_same (s := s) (more := more) (vs' := vs) (rows := rows) (fz' := some (hh, u, fl)) (tb' := some c) hfr D NR hdis kg hok KtsTurn.refl (by assumption) N9' ?ne ?Z I hkeys hrefs ?hv ?hs
      case ne =>
        intro q hq
        rcases List.mem_cons.mp hq with rfl | hq
        · exact ne_four (by k_ne) (by k_ne) (by k_ne) (by k_ne)
        · obtain ⟨a1, a2, a3, a4⟩ := hm q hq
          exact ne_four (Nat.ne_of_gt (a4 _ (.head _))) (Nat.ne_of_gt a1) (Nat.ne_of_gt a2) (Nat.ne_of_gt a3)
      case Z =>
        intro h hall
        have k0 := Z h fun q hq => hall q (List.mem_append_right _ hq)
        obtain ⟨f1, f2⟩ := hZ h (fun c' e => k0.2 c' e) fun q hq => hall q (List.mem_append_left _ hq)
        exact ⟨fun hh' u' fl' e => by cases e; exact f1, fun c' e => by cases e; exact f2⟩
      case hv => exact Nat.le_succ _
      case hs => intro _; rfl
    · k_steps
      refine b_method (X'.keeps F3.keep) (N3.get (.tail _ (.tail _ (.tail _ (.tail _ (.tail _ (.tail _ (.tail _ (.tail _ (.head _)))))))))) (N3.get (.tail _ (.tail _ (.tail _ (.tail _ (.tail _ (.tail _ (.tail _ (.tail _ (.tail _ (.head _))))))))))) (fk_get _) tm_get dl_get ?_
      k_steps
      refine wpAny_call (c_get (X'.keeps F3.keep) (N3.get (.tail _ (.tail _ (.tail _ (.tail _ (.tail _ (.tail _ (.tail _ (.tail _ (.head _)))))))))) I hkv hbs ?_)
      rw [hv]
      dsimp only [Option.getD]
      k_steps
      refine item_at (x := .ref fa) (News.isList (by assumption) (.head _)) (by decide) (by decide) rfl ?_ (by with_unfolding_all rfl)
      refine wpAny_is_ref_self ?_
      k_steps
      with_reducible rename Fr _ _ _ _ => F6
      with_reducible rename News _ _ _ _ => N6
      refine b_in (X'.keeps F6.keep) (N6.get (by k_mem : (b, bobj DD (some (.ref Fa)) es ep) ∈ _)) I hkv hbs ?_
      rw [hv]
      dsimp only [Option.isSome]
      k_steps
      refine ne_one (News.isList (a := D1) (by assumption) (by k_mem)) (News.isList (by assumption) (.head _)) (show un + 3 < cLine by omega) ?_
      k_steps
      refine' step_same (s := s) (more := []) (vs' := vs) (rows := rows) (fz' := fz) (tb' := tb) hfr D NR hdis kg hok KtsTurn.refl (by assumption) (news_sub (by assumption) ?n) ?ne Z I hkeys hrefs ?hv ?hs
      case n => kqd_sub
      case ne => kqd_in
      case hv => exact Nat.le_succ _
      case hs => intro _; rfl
    · k_steps
      refine b_method (X'.keeps F3.keep) (N3.get (.tail _ (.tail _ (.tail _ (.tail _ (.tail _ (.tail _ (.tail _ (.tail _ (.head _)))))))))) (N3.get (.tail _ (.tail _ (.tail _ (.tail _ (.tail _ (.tail _ (.tail _ (.tail _ (.tail _ (.head _))))))))))) (fk_setdefault _) tm_setdefault dl_setdefault ?_
      k_steps
      refine wpAny_call (c_setdefault (X'.keeps F3.keep) (N3.get (.tail _ (.tail _ (.tail _ (.tail _ (.tail _ (.tail _ (.tail _ (.tail _ (.head _)))))))))) I hkv hlen hbs ?_ ?_)
      · intro v e
        obtain rfl : v = .ref fa := Option.some.inj (e.symm.trans hv)
        dsimp only
        k_steps
        refine item_at (x := .ref fa) (News.isList (by assumption) (.head _)) (by decide) (by decide) rfl ?_ (by with_unfolding_all rfl)
        refine wpAny_is_ref_self ?_
        k_steps
        refine ne_one (News.isList (a := D1) (by assumption) (by k_mem)) (News.isList (by assumption) (.head _)) (show un + 3 < cLine by omega) ?_
        k_steps
        refine' step_same (s := s) (more := []) (vs' := vs) (rows := rows) (fz' := fz) (tb' := tb) hfr D NR hdis kg hok KtsTurn.refl (by assumption) (news_sub (by assumption) ?n) ?ne Z I hkeys hrefs ?hv ?hs
        case n => kqd_sub
        case ne => kqd_in
        case hv => exact Nat.le_succ _
        case hs => intro _; rfl
      · intro e
        rw [hv] at e; cases e
end Mine
end
end

section
open PySem PySem.W PyProof.Rows PySem.Calls
set_option maxRecDepth 100000
set_option maxHeartbeats 2000000
namespace Mine
theorem not_sys {h : Heap} {mb : Str → Option Value} {DD b : Addr} (N : h.Ns builtinsNs mb) (e : h.get? DD = none) (lt : DD < b) : (b == sysModules) = false := by
  have : b ≠ sysModules := fun q => by
    rw [q] at lt
    obtain ⟨o, _, _, eo, _⟩ := N
    have z : DD = builtinsNs := Nat.lt_one_iff.mp lt
    rw [z, eo] at e; cases e
  simpa using this
section
variable {a b c d e f g i j k l m n o : Addr × Obj} {old : List (Addr × Obj)}
theorem sub_four : ∀ q ∈ [a, b, c, d], q ∈ n :: o :: a :: b :: c :: d :: e :: f :: g :: i :: j :: k :: l :: m :: old := fun q hq => by
  simp only [List.mem_cons, List.not_mem_nil, or_false] at hq ⊢
  rcases hq with h | h | h | h <;> simp [h]
theorem sub_old : ∀ q ∈ old, q ∈ n :: o :: a :: b :: c :: d :: e :: f :: g :: i :: j :: k :: l :: m :: old := fun q hq => by
  simp only [List.mem_cons]; simp [hq]
theorem sub_fix : ∀ q ∈ [n, o, e, f, g, i, j, k, l, m], q ∈ n :: o :: a :: b :: c :: d :: e :: f :: g :: i :: j :: k :: l :: m :: old := fun q hq => by
  simp only [List.mem_cons, List.not_mem_nil, or_false] at hq ⊢
  rcases hq with h | h | h | h | h | h | h | h | h | h <;> simp [h]
end
theorem law_step {w : World} {A₀ : Around} {dep un : Nat} {gd : Option (List Code)} {h₀ : Heap} {env : Env} {L : Addr} {m mg mb : Str → Option Value} {I l M b DD cT cP bb DB Fa cF cM tT : Addr} {oI oL oF oC oM o9 oT oP : Obj}
  {fz : Fz} {tb : Option Addr} {es : Array DictEntry} {ep dn tn : Nat} {rows : List Row} {vs : List Value} {n : Nat} {fzL : List (Addr × Obj)} {i : Int} {t : Tok} {s : Shared} {p : Program} {loose : List Str} {mean : ExcName → Option Value} {R : Result → Shared → Prop}
  (B : Below A₀ h₀ [] h₀) (F : Fr h₀ L s.heap m) (N : News h₀ L s.heap ((I, oI) :: (l, oL) :: LNews M b DD cT cP bb DB Fa cF cM oF oC oM o9 oT oP vs n es ep fz dn tb tT tn rows fzL)) (T : Top p loose mean mg mb h₀) (C5 : CodeHd h₀ 54 50)
  (hfr : env.frame = some L) (hke : env.scope.kind = .function)
  (H4 : ∀ f ∈ [cT, cP, bb, DB, 90, Fa, cF, cM, l], f ∉ [M, b, DD, 50]) (H5 : b ≠ M ∧ DD ≠ M ∧ M ≠ 50 ∧ b ≠ DD ∧ b ≠ 50 ∧ DD ≠ 50) (hbs : (b == sysModules) = false)
  (hSta : ∀ g : Heap, g.get? Fa = some oF → g.get? cF = some oC → g.get? cM = some oM → Sta g Fa M)
  (hoff : ∀ q ∈ Old tT tn rows fzL, q.1 ∉ [M, b, DD, 50, cT, cP, bb, DB, 90, Fa, cF, cM]) (hI : ∀ p ∈ LNews M b DD cT cP bb DB Fa cF cM oF oC oM o9 oT oP vs n es ep fz dn tb tT tn rows fzL, p.1 ≠ I)
  (Z : FzOk fzL fz tb b) (hB : Bk PySem.Challenge.rw_il0026_01.row.prog w es (kvsOf rows)) (hkeys : ∀ x ∈ rows, isKey x.key x.kv = true) (hrefs : ∀ x ∈ rows, ∃ a, x.th = .ref a) (hsz : rows.length ≤ 500)
  (hdep : dep ≤ 510) (hun : un + 200 < cLine) (hvs : vs.length ≤ 60)
  (hok : ∀ (r T' : Addr) (rn tn' : Nat) (rows' : List Row) (vs' : List Value) (n' : Nat) (es' : Array DictEntry) (ep' : Nat) (fz' : Fz) (dn' : Nat) (tb' : Option Addr) (fzL' : List (Addr × Obj)) (h' : Heap) (tk : Nat),
    Fr h₀ L h' m → News h₀ L h' ((r, W.listOf #[.bool true, .ref T', .bool fz'.isSome] rn) :: (I, oI) :: (l, oL) :: LNews M b DD cT cP bb DB Fa cF cM oF oC oM o9 oT oP vs' n' es' ep' fz' dn' tb' T' tn' rows' fzL') →
    (∀ q ∈ (r, W.listOf #[.bool true, .ref T', .bool fz'.isSome] rn) :: Old T' tn' rows' fzL', q.1 ∉ [M, b, DD, 50, cT, cP, bb, DB, 90, Fa, cF, cM, I]) →
    FzOk fzL' fz' tb' b → Bk PySem.Challenge.rw_il0026_01.row.prog w es' (kvsOf rows') → (∀ x ∈ rows', isKey x.key x.kv = true) → (∀ x ∈ rows', ∃ a, x.th = .ref a) → rows'.length ≤ rows.length + 1 → vs'.length ≤ vs.length + 1 → (2 < i.fmod 8 → vs' = vs) → R (.ok (.ret (.ref r))) { s with heap := h', toks := tk }) :
  (hd.heap_39 w.params).In h₀ →
  codeAny (model PySem.Challenge.rw_il0026_01.row.prog w) ⟨none, dep, some [env], gd, un⟩ (.call (.ref 88) ⟨[.ref b, .ref tT, .bool fz.isSome, .ref M, .int i t], []⟩) R s := by
  intro X₀
  obtain ⟨a1, a2, a3, a4, a5, a6⟩ := H5
  have hI4 : I ∉ [M, b, DD, 50] := fun q => by
    simp only [List.mem_cons, List.not_mem_nil, or_false] at q
    rcases q with q | q | q | q
    · exact hI _ (.head _) q.symm
    · exact hI _ (.tail _ (.head _)) q.symm
    · exact hI _ (.tail _ (.tail _ (.head _))) q.symm
    · exact hI _ (.tail _ (.tail _ (.tail _ (.head _)))) q.symm
  have NF := news_sub N sub_fix
  have hfix : ∀ p ∈ [(I, oI), (l, oL), (cT, oT), (cP, oP), (bb, bobj DB none #[] 0), (DB, ddo none 0), (90, o9), (Fa, oF), (cF, oC), (cM, oM)], p.1 ∉ [M, b, DD, 50] := fun p hp => by
    simp only [List.mem_cons, List.not_mem_nil, or_false] at hp
    rcases hp with h | h | h | h | h | h | h | h | h | h
    · rw [h]; exact hI4
    all_goals (rw [h]; exact H4 _ (by simp))
  have hdis : ∀ q ∈ Old tT tn rows fzL, q.1 ∉ [M, b, DD, 50] := fun q hq hm => hoff q hq (by
    simp only [List.mem_cons, List.not_mem_nil, or_false] at hm ⊢
    rcases hm with h | h | h | h <;> simp [h])
  have hoffI : ∀ q ∈ Old tT tn rows fzL, q.1 ∉ [M, b, DD, 50, cT, cP, bb, DB, 90, Fa, cF, cM, I] := fun q hq hm => by
    have hm' : q.1 ∈ [M, b, DD, 50, cT, cP, bb, DB, 90, Fa, cF, cM] ++ [I] := hm
    rcases List.mem_append.mp hm' with h | h
    · exact hoff q hq h
    · exact hI q (.tail _ (.tail _ (.tail _ (.tail _ (.tail _ (.tail _ (.tail _ (.tail _ (.tail _ (.tail _ (.tail _ (.tail _ hq)))))))))))) (List.mem_singleton.mp h)
  have hs : ∀ c ∈ [M, b, DD, 50, cT, cP, bb, DB, 90, Fa, cF, cM, I], ∃ o, s.heap.get? c = some o := fun c hc => by
    have g := fun p hp => (N p hp).1
    simp only [List.mem_cons, List.not_mem_nil, or_false] at hc
    rcases hc with h | h | h | h | h | h | h | h | h | h | h | h | h
    all_goals (rw [h])
    · exact ⟨_, g _ (List.mem_of_getElem? (i := 2) rfl)⟩
    · exact ⟨_, g _ (List.mem_of_getElem? (i := 3) rfl)⟩
    · exact ⟨_, g _ (List.mem_of_getElem? (i := 4) rfl)⟩
    · exact ⟨_, g _ (List.mem_of_getElem? (i := 5) rfl)⟩
    · exact ⟨_, g _ (List.mem_of_getElem? (i := 6) rfl)⟩
    · exact ⟨_, g _ (List.mem_of_getElem? (i := 7) rfl)⟩
    · exact ⟨_, g _ (List.mem_of_getElem? (i := 8) rfl)⟩
    · exact ⟨_, g _ (List.mem_of_getElem? (i := 9) rfl)⟩
    · exact ⟨_, g _ (List.mem_of_getElem? (i := 10) rfl)⟩
    · exact ⟨_, g _ (List.mem_of_getElem? (i := 11) rfl)⟩
    · exact ⟨_, g _ (List.mem_of_getElem? (i := 12) rfl)⟩
    · exact ⟨_, g _ (List.mem_of_getElem? (i := 13) rfl)⟩
    · exact ⟨_, g _ (List.mem_of_getElem? (i := 0) rfl)⟩
  refine step_call (fz := fz) (dn := dn) (rows := rows) (tn := tn) (fzL := fzL) (vs := vs) B F (news_sub N sub_four) T (news_sub N sub_old) hdis no_dicts T C5 hfr hke a1 a2 a3 a4 a5 a6 hbs (fun g kg => ?_) Z hB hkeys hrefs hsz hdep hun hvs ?_ X₀ X₀
  · exact hSta g (kg _ _ (N.get (List.mem_of_getElem? (i := 11) rfl)) (H4 _ (by simp))) (kg _ _ (N.get (List.mem_of_getElem? (i := 12) rfl)) (H4 _ (by simp))) (kg _ _ (N.get (List.mem_of_getElem? (i := 13) rfl)) (H4 _ (by simp)))
  · intro r T' rn tn' rows' vs' n' es' ep' fz' dn' tb' fzL' h' tk h₀' KT F' _ _ N' K4 _ hnew Z' I' hk' hr' hl' hv' hs'
    have F'' := back_fr KT F'
    have N'' := back_news KT N'
    have NF' := keep_fixed NF K4 hfix
    refine hok r T' rn tn' rows' vs' n' es' ep' fz' dn' tb' fzL' h' tk F'' (fun q hq => ?_) (tail_off hs hoffI hnew) Z' I' hk' hr' hl' hv' hs'
    have h1 := news_app NF' N'' q
    simp only [List.mem_cons, List.mem_append, List.not_mem_nil, or_false] at h1 hq
    apply h1
    rcases hq with h | h | h | h | h | h | h | h | h | h | h | h | h | h | h | h | h | h <;> simp only [h, or_true, true_or]
end Mine
end

section
open PySem PySem.W PyProof.Rows PySem.Calls
set_option maxRecDepth 100000
set_option maxHeartbeats 2000000
namespace Mine
section
variable {h₀ h h' : Heap} {L I l M b DD cT cP bb DB Fa cF cM tT : Addr} {oI oL oF oC oM o9 oT oP : Obj} {fz : Fz} {tb : Option Addr} {es : Array DictEntry} {ep dn tn : Nat} {rows : List Row} {vs : List Value} {n : Nat} {fzL : List (Addr × Obj)}
theorem upd_cT (N : News h₀ L h ((I, oI) :: (l, oL) :: LNews M b DD cT cP bb DB Fa cF cM oF oC oM o9 oT oP vs n es ep fz dn tb tT tn rows fzL)) {oT' : Obj}
    (HT : ∀ f ∈ [M, b, DD, 50, cP, bb, DB, 90, Fa, cF, cM, l], f ≠ cT) (hI : I ≠ cT) (hO : ∀ q ∈ Old tT tn rows fzL, q.1 ≠ cT) (hs : Heap.SameBut cT h h') (ho : h'.get? cT = some oT') :
    News h₀ L h' ((I, oI) :: (l, oL) :: LNews M b DD cT cP bb DB Fa cF cM oF oC oM o9 oT' oP vs n es ep fz dn tb tT tn rows fzL) := by
  refine upd_news N (d := cT) (o := oT) (.tail _ (.tail _ (.tail _ (.tail _ (.tail _ (.tail _ (.head _))))))) hs ho fun p hp => ?_
  rcases List.mem_cons.mp hp with rfl | hp
  · exact .inr ⟨(.head _), hI⟩
  rcases List.mem_cons.mp hp with rfl | hp
  · exact .inr ⟨(.tail _ (.head _)), HT _ (.tail _ (.tail _ (.tail _ (.tail _ (.tail _ (.tail _ (.tail _ (.tail _ (.tail _ (.tail _ (.tail _ (.head _))))))))))))⟩
  rcases List.mem_cons.mp hp with rfl | hp
  · exact .inr ⟨(.tail _ (.tail _ (.head _))), HT _ (.head _)⟩
  rcases List.mem_cons.mp hp with rfl | hp
  · exact .inr ⟨(.tail _ (.tail _ (.tail _ (.head _)))), HT _ (.tail _ (.head _))⟩
  rcases List.mem_cons.mp hp with rfl | hp
  · exact .inr ⟨(.tail _ (.tail _ (.tail _ (.tail _ (.head _))))), HT _ (.tail _ (.tail _ (.head _)))⟩
  rcases List.mem_cons.mp hp with rfl | hp
  · exact .inr ⟨(.tail _ (.tail _ (.tail _ (.tail _ (.tail _ (.head _)))))), HT _ (.tail _ (.tail _ (.tail _ (.head _))))⟩
  rcases List.mem_cons.mp hp with rfl | hp
  · exact .inl rfl
  rcases List.mem_cons.mp hp with rfl | hp
  · exact .inr ⟨(.tail _ (.tail _ (.tail _ (.tail _ (.tail _ (.tail _ (.tail _ (.head _)))))))), HT _ (.tail _ (.tail _ (.tail _ (.tail _ (.head _)))))⟩
  rcases List.mem_cons.mp hp with rfl | hp
  · exact .inr ⟨(.tail _ (.tail _ (.tail _ (.tail _ (.tail _ (.tail _ (.tail _ (.tail _ (.head _))))))))), HT _ (.tail _ (.tail _ (.tail _ (.tail _ (.tail _ (.head _))))))⟩
  rcases List.mem_cons.mp hp with rfl | hp
  · exact .inr ⟨(.tail _ (.tail _ (.tail _ (.tail _ (.tail _ (.tail _ (.tail _ (.tail _ (.tail _ (.head _)))))))))), HT _ (.tail _ (.tail _ (.tail _ (.tail _ (.tail _ (.tail _ (.head _)))))))⟩
  rcases List.mem_cons.mp hp with rfl | hp
  · exact .inr ⟨(.tail _ (.tail _ (.tail _ (.tail _ (.tail _ (.tail _ (.tail _ (.tail _ (.tail _ (.tail _ (.head _))))))))))), HT _ (.tail _ (.tail _ (.tail _ (.tail _ (.tail _ (.tail _ (.tail _ (.head _))))))))⟩
  rcases List.mem_cons.mp hp with rfl | hp
  · exact .inr ⟨(.tail _ (.tail _ (.tail _ (.tail _ (.tail _ (.tail _ (.tail _ (.tail _ (.tail _ (.tail _ (.tail _ (.head _)))))))))))), HT _ (.tail _ (.tail _ (.tail _ (.tail _ (.tail _ (.tail _ (.tail _ (.tail _ (.head _)))))))))⟩
  rcases List.mem_cons.mp hp with rfl | hp
  · exact .inr ⟨(.tail _ (.tail _ (.tail _ (.tail _ (.tail _ (.tail _ (.tail _ (.tail _ (.tail _ (.tail _ (.tail _ (.tail _ (.head _))))))))))))), HT _ (.tail _ (.tail _ (.tail _ (.tail _ (.tail _ (.tail _ (.tail _ (.tail _ (.tail _ (.head _))))))))))⟩
  rcases List.mem_cons.mp hp with rfl | hp
  · exact .inr ⟨(.tail _ (.tail _ (.tail _ (.tail _ (.tail _ (.tail _ (.tail _ (.tail _ (.tail _ (.tail _ (.tail _ (.tail _ (.tail _ (.head _)))))))))))))), HT _ (.tail _ (.tail _ (.tail _ (.tail _ (.tail _ (.tail _ (.tail _ (.tail _ (.tail _ (.tail _ (.head _)))))))))))⟩
  exact .inr ⟨(.tail _ (.tail _ (.tail _ (.tail _ (.tail _ (.tail _ (.tail _ (.tail _ (.tail _ (.tail _ (.tail _ (.tail _ (.tail _ (.tail _ hp)))))))))))))), hO p hp⟩
theorem upd_cP (N : News h₀ L h ((I, oI) :: (l, oL) :: LNews M b DD cT cP bb DB Fa cF cM oF oC oM o9 oT oP vs n es ep fz dn tb tT tn rows fzL)) {oP' : Obj}
    (HP : ∀ f ∈ [M, b, DD, 50, cT, bb, DB, 90, Fa, cF, cM, l], f ≠ cP) (hI : I ≠ cP) (hO : ∀ q ∈ Old tT tn rows fzL, q.1 ≠ cP) (hs : Heap.SameBut cP h h') (ho : h'.get? cP = some oP') :
    News h₀ L h' ((I, oI) :: (l, oL) :: LNews M b DD cT cP bb DB Fa cF cM oF oC oM o9 oT oP' vs n es ep fz dn tb tT tn rows fzL) := by
  refine upd_news N (d := cP) (o := oP) (.tail _ (.tail _ (.tail _ (.tail _ (.tail _ (.tail _ (.tail _ (.head _)))))))) hs ho fun p hp => ?_
  rcases List.mem_cons.mp hp with rfl | hp
  · exact .inr ⟨(.head _), hI⟩
  rcases List.mem_cons.mp hp with rfl | hp
  · exact .inr ⟨(.tail _ (.head _)), HP _ (.tail _ (.tail _ (.tail _ (.tail _ (.tail _ (.tail _ (.tail _ (.tail _ (.tail _ (.tail _ (.tail _ (.head _))))))))))))⟩
  rcases List.mem_cons.mp hp with rfl | hp
  · exact .inr ⟨(.tail _ (.tail _ (.head _))), HP _ (.head _)⟩
  rcases List.mem_cons.mp hp with rfl | hp
  · exact .inr ⟨(.tail _ (.tail _ (.tail _ (.head _)))), HP _ (.tail _ (.head _))⟩
  rcases List.mem_cons.mp hp with rfl | hp
  · exact .inr ⟨(.tail _ (.tail _ (.tail _ (.tail _ (.head _))))), HP _ (.tail _ (.tail _ (.head _)))⟩
  rcases List.mem_cons.mp hp with rfl | hp
  · exact .inr ⟨(.tail _ (.tail _ (.tail _ (.tail _ (.tail _ (.head _)))))), HP _ (.tail _ (.tail _ (.tail _ (.head _))))⟩
  rcases List.mem_cons.mp hp with rfl | hp
  · exact .inr ⟨(.tail _ (.tail _ (.tail _ (.tail _ (.tail _ (.tail _ (.head _))))))), HP _ (.tail _ (.tail _ (.tail _ (.tail _ (.head _)))))⟩
  rcases List.mem_cons.mp hp with rfl | hp
  · exact .inl rfl
  rcases List.mem_cons.mp hp with rfl | hp
  · exact .inr ⟨(.tail _ (.tail _ (.tail _ (.tail _ (.tail _ (.tail _ (.tail _ (.tail _ (.head _))))))))), HP _ (.tail _ (.tail _ (.tail _ (.tail _ (.tail _ (.head _))))))⟩
  rcases List.mem_cons.mp hp with rfl | hp
  · exact .inr ⟨(.tail _ (.tail _ (.tail _ (.tail _ (.tail _ (.tail _ (.tail _ (.tail _ (.tail _ (.head _)))))))))), HP _ (.tail _ (.tail _ (.tail _ (.tail _ (.tail _ (.tail _ (.head _)))))))⟩
  rcases List.mem_cons.mp hp with rfl | hp
  · exact .inr ⟨(.tail _ (.tail _ (.tail _ (.tail _ (.tail _ (.tail _ (.tail _ (.tail _ (.tail _ (.tail _ (.head _))))))))))), HP _ (.tail _ (.tail _ (.tail _ (.tail _ (.tail _ (.tail _ (.tail _ (.head _))))))))⟩
  rcases List.mem_cons.mp hp with rfl | hp
  · exact .inr ⟨(.tail _ (.tail _ (.tail _ (.tail _ (.tail _ (.tail _ (.tail _ (.tail _ (.tail _ (.tail _ (.tail _ (.head _)))))))))))), HP _ (.tail _ (.tail _ (.tail _ (.tail _ (.tail _ (.tail _ (.tail _ (.tail _ (.head _)))))))))⟩
  rcases List.mem_cons.mp hp with rfl | hp
  · exact .inr ⟨(.tail _ (.tail _ (.tail _ (.tail _ (.tail _ (.tail _ (.tail _ (.tail _ (.tail _ (.tail _ (.tail _ (.tail _ (.head _))))))))))))), HP _ (.tail _ (.tail _ (.tail _ (.tail _ (.tail _ (.tail _ (.tail _ (.tail _ (.tail _ (.head _))))))))))⟩
  rcases List.mem_cons.mp hp with rfl | hp
  · exact .inr ⟨(.tail _ (.tail _ (.tail _ (.tail _ (.tail _ (.tail _ (.tail _ (.tail _ (.tail _ (.tail _ (.tail _ (.tail _ (.tail _ (.head _)))))))))))))), HP _ (.tail _ (.tail _ (.tail _ (.tail _ (.tail _ (.tail _ (.tail _ (.tail _ (.tail _ (.tail _ (.head _)))))))))))⟩
  exact .inr ⟨(.tail _ (.tail _ (.tail _ (.tail _ (.tail _ (.tail _ (.tail _ (.tail _ (.tail _ (.tail _ (.tail _ (.tail _ (.tail _ (.tail _ hp)))))))))))))), hO p hp⟩
theorem news_rows {D : Addr} {oD : Obj} {X : List (Addr × Obj)} (N : News h₀ L h ((I, oI) :: (l, oL) :: LNews M b DD cT cP bb DB Fa cF cM oF oC oM o9 oT oP vs n es ep fz dn tb tT tn rows fzL)) (NY : News h₀ L h ((D, oD) :: ([] ++ X))) :
    News h₀ L h ((D, oD) :: (I, oI) :: (l, oL) :: LNews M b DD cT cP bb DB Fa cF cM oF oC oM o9 oT oP vs n es ep fz dn tb tT tn rows (fzL ++ X)) := fun q hq => by
  have h1 := news_app N NY q
  simp only [List.mem_cons, List.mem_append, List.not_mem_nil, false_or] at h1 hq
  apply h1
  rcases hq with h | h | h | h | h | h | h | h | h | h | h | h | h | h | h | h | h | h | h <;> simp only [h, or_true, true_or]
theorem drop_rows {X : List (Addr × Obj)} (N : News h₀ L h ((I, oI) :: (l, oL) :: LNews M b DD cT cP bb DB Fa cF cM oF oC oM o9 oT oP vs n es ep fz dn tb tT tn rows (fzL ++ X))) :
    News h₀ L h ((I, oI) :: (l, oL) :: LNews M b DD cT cP bb DB Fa cF cM oF oC oM o9 oT oP vs n es ep fz dn tb tT tn rows fzL) := fun q hq => by
  apply N q
  simp only [List.mem_cons, List.mem_append, List.not_mem_nil, false_or] at hq ⊢
  rcases hq with h | h | h | h | h | h | h | h | h | h | h | h | h | h | h | h | h <;> simp only [h, or_true, true_or]
theorem get_rows {X : List (Addr × Obj)} (N : News h₀ L h ((I, oI) :: (l, oL) :: LNews M b DD cT cP bb DB Fa cF cM oF oC oM o9 oT oP vs n es ep fz dn tb tT tn rows X)) : ∀ x ∈ rows, h.get? x.r = some (rowObj x) := fun x hx => by
  have hm : (x.r, rowObj x) ∈ rowsL rows := List.mem_map_of_mem hx
  exact N.get (List.mem_append_right ((I, oI) :: (l, oL) :: (M, W.listOf vs.toArray n) :: (b, bobj DD (some (.ref Fa)) es ep) :: (DD, ddo fz dn) :: (50, tabObj (tabOf tb)) :: (cT, oT) :: (cP, oP) :: (bb, bobj DB none #[] 0) :: (DB, ddo none 0) :: (90, o9) :: (Fa, oF) :: (cF, oC) :: (cM, oM) :: [(tT, W.listOf (tabIts rows) tn)]) (List.mem_append_left X hm))
theorem get_more {nr : List Row} (N : News h₀ L h ((I, oI) :: (l, oL) :: LNews M b DD cT cP bb DB Fa cF cM oF oC oM o9 oT oP vs n es ep fz dn tb tT tn rows (fzL ++ rowsL nr))) : ∀ x ∈ nr, h.get? x.r = some (rowObj x) := fun x hx => by
  have hm : (x.r, rowObj x) ∈ rowsL nr := List.mem_map_of_mem hx
  exact N.get (List.mem_append_right ((I, oI) :: (l, oL) :: (M, W.listOf vs.toArray n) :: (b, bobj DD (some (.ref Fa)) es ep) :: (DD, ddo fz dn) :: (50, tabObj (tabOf tb)) :: (cT, oT) :: (cP, oP) :: (bb, bobj DB none #[] 0) :: (DB, ddo none 0) :: (90, o9) :: (Fa, oF) :: (cF, oC) :: (cM, oM) :: [(tT, W.listOf (tabIts rows) tn)]) (List.mem_append_right (rowsL rows) (List.mem_append_right fzL hm)))
end
theorem news_but {h₀ h h' : Heap} {L c : Addr} {X : List (Addr × Obj)} (N : News h₀ L h X) (hX : ∀ p ∈ X, p.1 ≠ c) (hs : Heap.SameBut c h h') : News h₀ L h' X := fun p hp => ⟨(hs.2 p.1 (hX p hp)).trans (N p hp).1, (N p hp).2⟩
theorem news_dup {h₀ h : Heap} {L : Addr} {l : List (Addr × Obj)} {x : Addr × Obj} (N : News h₀ L h l) (hx : x ∈ l) : News h₀ L h (x :: l) := fun q hq => by
  rcases List.mem_cons.mp hq with rfl | hq
  · exact N _ hx
  · exact N _ hq
theorem cell_set {M : Model} {A : Around} {E : Value → Shared → Prop} {s : Shared} {env : Env} {name : Str} {h₀ : Heap} {L c : Addr} {o : Obj} {v₀ : Option Value} {v : Value} {m : Str → Option Value} {Q : Unit → Shared → Prop} (hk : env.scope.kind = .function) (hl : env.kindOf name = some .cell)
    (hc : env.cells.lookup name = some c) (F : Fr h₀ L s.heap m) (hn : s.heap.get? c = some o ∧ c ≠ L ∧ h₀.get? c = none) (hd : o.data = .cell v₀)
    (h : ∀ h' o', Fr h₀ L h' m → o'.data = .cell (some v) → h'.get? c = some o' → Heap.SameBut c s.heap h' → Q () { s with heap := h' }) : wpAny M A (storeName env name v) Q E s := by
  refine wpAny_storeName_cell hk hl hc ⟨o, hn.1, hd⟩ fun h' hv hs => ?_
  obtain ⟨o', ho', hd'⟩ := hv
  exact h h' o' (F.change hs hn.2.1 hn.2.2) hd' ho' hs
theorem law_end {prog : Program} {w : World} {h₀ h' : Heap} {L I l M b DD cT cP bb DB Fa cF cM tT T' : Addr} {oI oL oF oC oM o9 oT oP oT' oP' oR : Obj} {fz fz' : Fz} {tb tb' : Option Addr} {es es' : Array DictEntry} {ep dn tn ep' dn' tn' : Nat} {rows rows' : List Row} {vs vs' : List Value} {n n' : Nat} {fzL fzL' X : List (Addr × Obj)}
    {m' : Str → Option Value} {Q : Flow → Shared → Prop} {s₁ : Shared} {tk i : Nat} {r : Addr} {vP : Option Value}
    (F : Fr h₀ L h' m') (N : News h₀ L h' ((I, oI) :: (l, oL) :: LNews M b DD cT cP bb DB Fa cF cM oF oC oM o9 oT' oP' vs' n' es' ep' fz' dn' tb' T' tn' rows' (fzL' ++ X)))
    (hI9 : ∀ p ∈ LNews M b DD cT cP bb DB Fa cF cM oF oC oM o9 oT oP vs n es ep fz dn tb tT tn rows fzL, p.1 ≠ I) (hoff2 : ∀ q ∈ (r, oR) :: Old T' tn' rows' fzL', q.1 ∉ [M, b, DD, 50, cT, cP, bb, DB, 90, Fa, cF, cM, I])
    (m1 : m' "frozen" = some (.bool fz'.isSome)) (m2 : m' "book" = some (.ref b)) (m3 : m' "bare" = some (.ref bb)) (dT : oT'.data = .cell (some (.ref T'))) (dP : oP'.data = .cell vP) (Z : FzOk fzL' fz' tb' b) (hB : Bk prog w es' (kvsOf rows'))
    (hk : ∀ x ∈ rows', isKey x.key x.kv = true) (hr : ∀ x ∈ rows', ∃ a, x.th = .ref a) (hl : rows'.length ≤ i + 2) (hv : vs'.length ≤ i + 1) :
    TurnOk h₀ L I l oI oL (LawJ prog w M b DD cT cP bb DB Fa cF cM oF oC oM o9 (i + 1)) Q s₁ .next { s₁ with heap := h', toks := tk } := by
  refine ⟨h', tk, m', _, rfl, F, drop_rows N, fun p hp => ?_, fz', vs', n', es', ep', dn', tb', T', tn', rows', fzL', oT', oP', vP, m', rfl, ?_, dT, dP, Z, hB, hk, hr, hl, hv, fun q hq hm => hoff2 q (.tail _ hq) (List.mem_append_left [I] hm)⟩
  · show p.1 ≠ I
    rcases List.mem_cons.mp hp with rfl | hp
    · have z := hI9 _ (List.mem_of_getElem? (i := 0) rfl); exact z
    rcases List.mem_cons.mp hp with rfl | hp
    · have z := hI9 _ (List.mem_of_getElem? (i := 1) rfl); exact z
    rcases List.mem_cons.mp hp with rfl | hp
    · have z := hI9 _ (List.mem_of_getElem? (i := 2) rfl); exact z
    rcases List.mem_cons.mp hp with rfl | hp
    · have z := hI9 _ (List.mem_of_getElem? (i := 3) rfl); exact z
    rcases List.mem_cons.mp hp with rfl | hp
    · have z := hI9 _ (List.mem_of_getElem? (i := 4) rfl); exact z
    rcases List.mem_cons.mp hp with rfl | hp
    · have z := hI9 _ (List.mem_of_getElem? (i := 5) rfl); exact z
    rcases List.mem_cons.mp hp with rfl | hp
    · have z := hI9 _ (List.mem_of_getElem? (i := 6) rfl); exact z
    rcases List.mem_cons.mp hp with rfl | hp
    · have z := hI9 _ (List.mem_of_getElem? (i := 7) rfl); exact z
    rcases List.mem_cons.mp hp with rfl | hp
    · have z := hI9 _ (List.mem_of_getElem? (i := 8) rfl); exact z
    rcases List.mem_cons.mp hp with rfl | hp
    · have z := hI9 _ (List.mem_of_getElem? (i := 9) rfl); exact z
    rcases List.mem_cons.mp hp with rfl | hp
    · have z := hI9 _ (List.mem_of_getElem? (i := 10) rfl); exact z
    rcases List.mem_cons.mp hp with rfl | hp
    · have z := hI9 _ (List.mem_of_getElem? (i := 11) rfl); exact z
    intro e
    exact hoff2 p (.tail _ hp) (by rw [e]; exact List.mem_of_getElem? (i := 12) rfl)
  · funext y
    by_cases h1 : y = "frozen"
    · rw [h1]; simpa using m1
    · by_cases h2 : y = "book"
      · rw [h2]; simp only [show ¬ (("book" : Str) = "frozen") from by decide, if_false, if_true]; exact m2
      · by_cases h3 : y = "bare"
        · rw [h3]; simp only [show ¬ (("bare" : Str) = "frozen") from by decide, show ¬ (("bare" : Str) = "book") from by decide, if_false, if_true]; exact m3
        · simp only [h1, h2, h3, if_false]
end Mine
end

section
open PySem PySem.W PyProof.Rows PySem.Calls PyProof.Rows.LCg
set_option maxRecDepth 100000
set_option maxHeartbeats 2000000
namespace Mine
abbrev sc5 : Scope := ⟨.function, [(".0", .local), ("k", .local), ("pairs", .free), ("table", .free)], false, false, []⟩
theorem key_eq {A : Around} {s : Shared} {a b : Key} {u v : Value} (ha : isKey a u = true) (hb : isKey b v = true) (e : a = b) : SeqAt.EqAt A s u v true := fun prog w E Q hq =>
  (mixKind prog w).eqBool ha hb (by rw [show decide (a = b) = true from decide_eq_true e]; exact hq)
section
variable {prog : Program} {w : World} {A : Around} {E : Value → Shared → Prop} {s : Shared} {env : Env}
theorem ne_keys {a b : Addr} {nr rows : List Row} {Q : Value → Shared → Prop} (h1 : s.heap.IsList a (nr.map (·.kv)).toArray) (h2 : s.heap.IsList b (rows.map (·.kv)).toArray) (hk : nr.map (·.key) = rows.map (·.key))
    (k1 : ∀ x ∈ nr, isKey x.key x.kv = true) (k2 : ∀ x ∈ rows, isKey x.key x.kv = true) (hu : A.units < cLine) (h : Q (.bool false) s) : wpAny (model prog w) A (compareOp .NotEq (.ref a) (.ref b)) Q E s := by
  have hl : nr.length = rows.length := by simpa using congrArg List.length hk
  have := SeqAt.RcNeAt.lists (A := A) (e := fun _ => true) h1 h2 (by simp [hl]) hu (fun j q1 q2 => by
    have r1 : j < nr.length := by simpa using q1
    have r2 : j < rows.length := by simpa using q2
    have e : nr[j].key = rows[j].key := by
      have := congrArg (fun l => l[j]?) hk
      simpa [List.getElem?_eq_getElem, r1, r2] using this
    simpa using key_eq (A := A.in1) (s := s) (k1 _ (List.getElem_mem r1)) (k2 _ (List.getElem_mem r2)) e)
  refine this prog w E Q ?_
  have z : (List.range (nr.map (·.kv)).toArray.size).all (fun _ => true) = true := by simp
  rw [z]; exact h
theorem small_range {n : Nat} (h : n ≤ 1000) : Builtin.Range.small 0 (n : Int) 1 = true ∧ Builtin.Range.rangeSize 0 (n : Int) 1 = n := by
  have e : Builtin.Range.rangeSize 0 (n : Int) 1 = n := by
    unfold Builtin.Range.rangeSize
    rw [if_pos (by decide)]
    split <;> omega
  refine ⟨?_, e⟩
  unfold Builtin.Range.small
  rw [e]
  unfold Builtin.Range.rangeFitsLong
  simp
  omega
theorem row_th {nr rows : List Row} (hth : nr.map (·.th) = rows.map (·.th)) {j : Nat} (hj : j < rows.length) : ∃ x y, nr[j]? = some x ∧ rows[j]? = some y ∧ x ∈ nr ∧ y ∈ rows ∧ x.th = y.th := by
  have hl : nr.length = rows.length := by simpa using congrArg List.length hth
  have hj' : j < nr.length := by rw [hl]; exact hj
  refine ⟨nr[j], rows[j], List.getElem?_eq_getElem hj', List.getElem?_eq_getElem hj, List.getElem_mem hj', List.getElem_mem hj, ?_⟩
  have := congrArg (fun l => l[j]?) hth
  simpa [List.getElem?_eq_getElem, hj, hj'] using this
theorem tab_get {rows : List Row} {j : Nat} {x : Row} (h : rows[j]? = some x) : (tabIts rows)[j]? = some (.ref x.r) := by simp [tabIts, h]
theorem same_comp {iter : Exp} {pk p1 p2 p3 p4 p5 p6 p7 p8 p9 p10 p11 p12 pos : Pos} {cP cT p tT : Addr} {oP oT : Obj} {nr rows : List Row} {Q : Value → Shared → Prop}
    (hh : A.handled = none) (hk : env.scope.kind = .function) (hkp : env.kindOf "pairs" = some .cell) (hkt : env.kindOf "table" = some .cell) (hclos : closureFor sc5 env = pure [(("table" : Str), cT), (("pairs" : Str), cP)])
    (eP : s.heap.get? cP = some oP) (dP : oP.data = .cell (some (.ref p))) (eT : s.heap.get? cT = some oT) (dT : oT.data = .cell (some (.ref tT)))
    (hlp : s.heap.IsList p (tabIts nr)) (hlt : s.heap.IsList tT (tabIts rows)) (rp : ∀ x ∈ nr, s.heap.IsList x.r #[x.kv, x.th]) (rt : ∀ x ∈ rows, s.heap.IsList x.r #[x.kv, x.th]) (hth : nr.map (·.th) = rows.map (·.th)) (hrefs : ∀ x ∈ rows, ∃ a, x.th = .ref a) (hsz : rows.length ≤ 1000)
    (hit : ∀ Q' : Value → Shared → Prop, (∀ r h' tk t u v, IsRange h' r 0 ((tabIts rows).size : Nat) 1 t u v → Kps s.heap h' → Q' (.ref r) { s with heap := h', toks := tk }) → wpAny (model prog w) A (eval iter env) Q' E s)
    (fin : ∀ D h tk, Kps s.heap h → h.get? D = some (lst []) → s.heap.get? D = none → Q (.ref D) { s with heap := h, toks := tk })
    (hs : ∀ x, foldedSetIterable iter env x = pure x := by intro _; rfl) :
    wpAny (model prog w) A (eval (.ListComp (.Name "k" p1) [⟨.Name "k" pk, iter, [.Compare (.Subscript (.Subscript (.Name "pairs" p2) (.Name "k" p3) p4) (.Constant (.int 1) 0 p5) p6) [.IsNot] [.Subscript (.Subscript (.Name "table" p7) (.Name "k" p8) p9) (.Constant (.int 1) 0 p10) p11] p12], 0⟩] sc5 pos) env) Q E s := by
  have cellK : ∀ {cl : List (Str × Addr)} {C : Addr}, (compEnvC sc5 cl C env).kindOf "pairs" = some .cell ∧ (compEnvC sc5 cl C env).kindOf "table" = some .cell := by
    intro cl C
    constructor
    · show (sc5.names.map fun (n, k) => if (k == .free && env.scope.kind == .function && env.kindOf n == some .cell) then (n, .cell) else (n, k)).lookup ("pairs" : Str) = _
      simp only [List.map_cons, List.map_nil, hk, hkp, hkt, nk1, nk2, nk3, nk4, Bool.false_and, Bool.true_and, Bool.false_eq_true, if_true, if_false]
      decide
    · show (sc5.names.map fun (n, k) => if (k == .free && env.scope.kind == .function && env.kindOf n == some .cell) then (n, .cell) else (n, k)).lookup ("table" : Str) = _
      simp only [List.map_cons, List.map_nil, hk, hkp, hkt, nk1, nk2, nk3, nk4, Bool.false_and, Bool.true_and, Bool.false_eq_true, if_true, if_false]
      decide
  rw [eval_ListComp]
  refine wpAny_comprehension_free (use := none) rfl hs hclos rfl (by decide) (hit _ fun r h1 tk1 t u v hr up1 => ?_)
  rw [tab_size] at hr
  obtain ⟨sm, sz⟩ := small_range hsz
  refine wpAny_pyIter_range hr sm ?_
  rw [sz]
  dsimp only
  have up : Kps s.heap (h1.push { cls := .type "range_iterator", data := .fields #[rawInt 0, rawInt rows.length, rawInt 1] }) := fun c o e => Heap.get?_push_of_some _ (up1 c o e)
  have U : ∀ h : Heap, Ups (h1.push { cls := .type "range_iterator", data := .fields #[rawInt 0, rawInt rows.length, rawInt 1] }) h1.objs.size h → Kps s.heap h := fun h u c o e => u c o (Nat.ne_of_lt (Heap.lt_size (up1 c o e))) (up c o e)
  have W := Walks.range (prog := prog) (w := w) (A := A) hh h1.objs.size 0 1 rows.length
  refine comp_t_block (Bd := fun i m' => ∃ t, m' "k" = some (.int i t)) (J := fun i ys objs => ys = [] ∧ objs = []) (KTurns.ofWalks (target := .Name "k" pk) W fun i v s Q E st q => wpAny_of_eq (rfl : letOwnedTupleGo (.Name "k" pk) (.ref _) v = pure ()) q) (Nat.le_trans hsz (by decide)) (fun {i h} st q => ?_) (fun c hc => ?_)
    (by simpa [IsRangeIter] using Heap.get?_push_size _ rfl) (fun s' Q' E' st q => W.self 0 s' Q' E' st q) (by decide) rfl ?_ ⟨rfl, rfl⟩ ?_ ?_
  · rw [IsRangeIter, q] at st; cases st
  · rw [List.mem_singleton.mp hc]
    show h1.objs.size < (h1.push _).objs.size
    rw [Heap.size_push]; exact Nat.lt_succ_self _
  · intro i v' h tk C m₀ Q' E' hv hn u' hQ
    obtain ⟨t', rfl⟩ := hv
    refine wpAny_assign_Name (wpAny_storeName_local (lookup_relabel_local (x := "k") rfl) hn (fun h₂ hn₂ hs₂ => ?_) (by simp [compEnvC, relabel]))
    exact hQ h₂ _ _ hn₂ ⟨t', by simp⟩ fun c o hc e => hs₂.extBut c o hc e
  · intro i h tk C m' ys objs E' hi hB hJ hn u' _
    obtain ⟨t', hm⟩ := hB
    obtain ⟨rfl, rfl⟩ := hJ
    obtain ⟨x, y, hx, hy, mx, my, exy⟩ := row_th hth hi
    obtain ⟨fa, hfa⟩ := hrefs y my
    have K := U h u'
    have L0 : ((i : Int)).toNat = i := Int.toNat_natCast i
    have i63 : (i : Int) < 2 ^ 63 := by have := Nat.lt_of_lt_of_le hi hsz; omega
    have up' : ∀ {a its}, s.heap.IsList a its → h.IsList a its := fun q => q.at fun o e => K _ o e
    refine wpAny_isTrue_Compare1 (Subscript_ (Subscript_ (cell_name cellK.1 rfl (K _ _ eP) dP (loc_name (lookup_relabel_local (x := "k") rfl) hn hm ?_))))
    refine item_at (up' hlp) (Int.natCast_nonneg i) i63 (by rw [L0]; exact tab_get hx) (wpAny_Constant_int ?_)
    refine item_at (up' (rp x mx)) (by decide) (by decide) rfl ?_
    refine Subscript_ (Subscript_ (cell_name cellK.2 rfl (K _ _ eT) dT (loc_name (lookup_relabel_local (x := "k") rfl) hn hm ?_)))
    refine item_at (up' hlt) (Int.natCast_nonneg i) i63 (by rw [L0]; exact tab_get hy) (wpAny_Constant_int ?_)
    refine item_at (up' (rt y my)) (by decide) (by decide) rfl ?_
    show wpAny _ _ (compareOp .IsNot x.th y.th) _ _ _
    rw [exy, hfa]
    refine wpAny_isNot_ref_self (wpAny_truthy_bool ?_)
    simp only [Bool.false_eq_true, if_false]
    exact ⟨h, _, rfl, fun _ _ e => e, by simp⟩
  · intro D C h tk m' ys objs u' hn hCD hD hD₀ hC₀ ho hJ hlen
    obtain ⟨rfl, rfl⟩ := hJ
    refine ⟨m', hn, fun h'' hs'' => ?_⟩
    have nd : ∀ c, (h1.push { cls := .type "range_iterator", data := .fields #[rawInt 0, rawInt rows.length, rawInt 1] }).get? c = none → s.heap.get? c = none := fun c e => by
      cases q : s.heap.get? c with
      | none => rfl
      | some o => rw [up c o q] at e; cases e
    exact fin D h'' tk (fun c o e => hs''.extBut c o (fun q => by rw [q, nd _ hC₀] at e; cases e) (U h u' c o e)) (hs''.extBut _ _ (Ne.symm hCD) hD) (nd _ hD₀)
end
end Mine
end

section
open PySem PySem.W PyProof.Rows PySem.Calls
set_option maxRecDepth 100000
set_option maxHeartbeats 8000000
section
open Mine
local macro_rules | `(tactic| walk_at "call ref") => `(tactic| (k_here; k_dflt (show Hold (wpAny _ _ (call (Value.ref _) _) _ _ _))))
local macro_rules | `(tactic| k_all) => `(tactic| assumption)
local macro_rules | `(tactic| walk_at "exec For Name BinOp cons nil") => `(tactic| (k_here; (with_reducible rename Fr _ _ _ _ => lF'); (with_unfolding_all refine' For_invVF lF' ?k1 ?k2 ?_; (case k1 => exact rfl); (case k2 => exact rfl); k_whole)))
local macro_rules | `(tactic| walk_at "call builtin:len") => `(tactic| (k_here; (with_reducible show wpAny _ _ (call (Value.builtin "len") [Value.ref _]) _ _ _); refine len_list (News.isList (by k_asm) (by k_mem)) (by (simp only [Array.size_push, List.size_toArray, List.length_append, List.length_cons, List.length_nil]; omega)) ?_))
local macro_rules | `(tactic| walk_at "compareOp NotEq ref ref") => `(tactic| (k_here; k_dflt (show Hold (wpAny _ _ (compareOp CmpOp.NotEq (Value.ref _) (Value.ref _)) _ _ _))))
local macro_rules | `(tactic| walk_at "eval ListComp") => `(tactic| (k_here; k_dflt (show Hold (wpAny _ _ (eval (PySem.Expr.ListComp _ _ _ _) _) _ _ _))))
local macro_rules | `(tactic| walk_at "execs cons") => `(tactic| (k_here; (with_reducible show wpAny _ _ (execs (Stmt.Assign [PySem.Expr.Name _ _] (PySem.Expr.ListComp _ _ _ _) _ :: _) _) _ _ _); k_dflt (show Hold (wpAny _ _ (execs _ _) _ _ _))))
local macro_rules | `(tactic| fin_places) => `(tactic| first | assumption | ((try simp only [decide_eq_true_eq, beq_iff_eq, bne_iff_ne, ne_eq, List.size_toArray, List.length_append, List.length_cons, List.length_nil]); omega))
local macro_rules | `(tactic| walk_at "ite") => `(tactic| (k_here; first | refine ite_pos (by fin_places) ?_ | refine ite_neg (by fin_places) ?_ | refine ite_neg (by rw [bne_self_eq_false]; exact Bool.false_ne_true) ?_))
local macro_rules | `(tactic| walk_at "pyIter ref") => `(tactic| (k_here; k_dflt (show Hold (wpAny _ _ (pyIter (Value.ref _)) _ _ _))))
theorem Mine.law_walked : PySem.Challenge.rw_il0026_01.Holds := hd (by
  k_go0; (all_goals try k_fold); k_steps
  with_reducible rename Frag.In _ _ => X0
  with_reducible rename News _ _ _ _ => N1
  with_reducible rename Fr _ _ _ _ => F1
  refine cls_book (X0.keeps F1.keep) (N1.get (.head _)) (N1.get (.tail _ (.tail _ (.tail _ (.head _))))) (N1.get (.tail _ (.tail _ (.tail _ (.tail _ (.head _)))))) ?_
  intro b DD h5 tk5 k5 eb eD nb nD lt5
  have F2 := F1.keeps k5
  have N2 : News _ _ h5 _ := add_new F1 N1 (fun c o _ e => k5 c o e) eb nb
  have N3 : News _ _ h5 ((DD, ddo none 0) :: _) := fun p hp => by
    rcases List.mem_cons.mp hp with rfl | hp
    · exact add_new F1 N1 (fun c o _ e => k5 c o e) eD nD _ (.head _)
    · exact N2 p hp
  have ne5 := new_ne N1 nb
  have ne6 := new_ne N1 nD
  with_reducible rename Top topProg _ _ _ _ _ => T0
  have hbs := not_sys (T0.b.keeps F1.keep) nD lt5
  clear N1 F1 N2 k5 eb eD nb nD
  k_steps
  refine cls_bare (X0.keeps F2.keep) ?_
  intro bb DB h7 tk7 k7 ebb eDB nbb nDB lt7
  have F3 := F2.keeps k7
  have N4 : News _ _ h7 _ := add_new F2 N3 (fun c o _ e => k7 c o e) ebb nbb
  have N5 : News _ _ h7 ((DB, ddo none 0) :: _) := fun p hp => by
    rcases List.mem_cons.mp hp with rfl | hp
    · exact add_new F2 N3 (fun c o _ e => k7 c o e) eDB nDB _ (.head _)
    · exact N4 p hp
  have ne7 := new_ne N3 nbb
  have ne8 := new_ne N3 nDB
  have hbbs := not_sys (T0.b.keeps F2.keep) nDB lt7
  clear N3 F2 N4 k7 ebb eDB nbb nDB
  k_steps
  with_reducible rename IntsAre _ _ => hI
  with_reducible rename News _ _ _ _ => N6
  with_reducible rename Fr _ _ _ _ => F6
  with_reducible rename Below _ _ _ _ => B0
  with_reducible rename CodeHd _ (54, 50).fst _ => C5
  have hlen : ∀ wl : List Int, ([0, 16] ++ List.take 30 wl ++ [24, 5, 32, 32, 35, 32, 20, 16, 14, 7, 23] : List Int).length ≤ 43 := fun wl => by
    simp only [List.length_append, List.length_cons, List.length_nil, List.length_take]; omega
  show wpAny _ _ _ _ _ _
  refine' law_loop ?hh ?F ?N ?I ?hm ?dT ?dP ?dM ?dF ?dC ?d9 ?hws ?hDD ?hTP ?hTM ?hPM ?hF5 ?hF9 ?hSta ?turn ?done
  case hh => rfl
  case F => exact F6
  case N => exact N6
  case I => exact hI
  case hm => rfl
  case dT => assumption
  case dP => assumption
  case dM => assumption
  case dF => rfl
  case dC => assumption
  case d9 => rfl
  case hws => intro e; have := hI.length; rw [e] at this; simp at this
  case hDD => exact ne8 (_, _) (by k_mem)
  case hTP => exact Nat.ne_of_lt (Nat.lt_succ_self _)
  case hTM => exact Nat.ne_of_lt (Nat.lt_succ_of_lt (Nat.lt_succ_self _))
  case hPM => exact Nat.ne_of_lt (Nat.lt_succ_self _)
  case hF5 => k_ne
  case hF9 => k_ne
  case hSta =>
    intro g e1 e2 e3
    exact ⟨_, _, _, _, _, _, _, _, _, e1, ⟨_, _, _, _, rfl, e2, by assumption, by assumption⟩, e3, by assumption⟩
  case turn =>
    intro H4 H5 HT HP hSta dM i k t I h tk oI oL fz vs n es ep dn tb tT tn rows fzL oT oP vP u hi dT dP hZ hB hK hR hrl hvl hoff hI9 F N
    have hi := Nat.lt_of_lt_of_le hi (hlen _)
    have hvs : vs.length ≤ 60 := by omega
    k_steps
    with_reducible rename Fr _ _ _ _ => F1
    with_reducible rename News _ _ _ _ => N1
    refine wpAny_call (law_step B0 F1 N1 T0 C5 rfl rfl H4 H5 hbs hSta hoff hI9 hZ hB hK hR (by omega) (by decide) (by decide) hvs ?_ X0)
    intro r T' rn tn' rows' vs' n' es' ep' fz' dn' tb' fzL' h2 tk2 F2 N2 hoff2 Z2 I2 hk2 hr2 hl2 hv2 hs2
    clear F N F1 N1
    dsimp only
    k_steps
    with_reducible rename Fr _ _ _ _ => F3
    with_reducible rename News _ _ _ _ => N3
    refine cell_set rfl rfl rfl F3 (N3 _ (List.mem_of_getElem? (i := 7) rfl)) dT ?_
    intro h4 oT4 F4 d4 e4 s4
    have N4 := upd_cT (news_sub N3 fun q hq => .tail _ hq) HT (Ne.symm (hI9 _ (List.mem_of_getElem? (i := 4) rfl))) (fun q hq e => hoff2 q (.tail _ hq) (by rw [e]; exact List.mem_of_getElem? (i := 4) rfl)) s4 e4
    clear F3 N3 e4 s4 dT hZ hB hK hR hoff
    dsimp only
    k_steps
    show wpAny _ _ _ _ _ _
    with_reducible rename Fr _ _ _ _ => F5
    with_reducible rename News _ _ _ _ => N5
    refine wpAny_execs_cons (wpAny_Assign_Name ?_)
    refine items_comp rfl rfl (fun Q' hq => ?hit) (N5.get (List.mem_of_getElem? (i := 3) rfl)) I2 ?sz ?_
    case hit =>
      refine MethodCall_pos rfl (wpAny_Name (wpAny_loadName_local rfl rfl F5.ns rfl ?_))
      refine b_method (X0.keeps F5.keep) (N5.get (List.mem_of_getElem? (i := 3) rfl)) (N5.get (List.mem_of_getElem? (i := 4) rfl)) (fk_items _) tm_items dl_items ?_
      refine callWith_builtin (args := []) rfl (PyProof.Rows.evalArgs_none (wpAny_call (c_items (X0.keeps F5.keep) (N5.get (List.mem_of_getElem? (i := 3) rfl)) hbs ?_)))
      exact hq
    case sz => simp only [Mine.kvsOf, List.length_map]; omega
    intro D6 nr h6 tk6 k6 e6 n6 hnr ho6
    have F6 := F5.keeps k6
    replace e6 : h6.get? D6 = some (W.listOf (tabIts nr) (nr.map fun x : Row => Value.ref x.r).length) := e6
    have NX := add_tab F5 (news_sub (l' := []) N5 fun _ hp => absurd hp List.not_mem_nil) (fun c o _ e => k6 c o e) e6 n6 fun x hx => ⟨(ho6 x hx).1, (ho6 x hx).2.1, (ho6 x hx).2.2.1⟩
    have hX6 := new_ne N5 n6
    have hR6 := fun (x : Row) (hx : x ∈ nr) => new_ne N5 (ho6 x hx).2.1
    have N6 := news_keeps N5 k6
    have kk6 : ∀ x ∈ nr, isKey x.key x.kv = true := fun x hx => (ho6 x hx).2.2.2
    clear F5 N5 k6 e6 n6 ho6
    dsimp only
    k_steps
    show wpAny _ _ _ _ _ _
    refine cell_set rfl rfl rfl F6 (N6 _ (List.mem_of_getElem? (i := 7) rfl)) dP ?_
    intro h7 oP7 F7 d7 e7 s7
    have N7 := upd_cP N6 HP (Ne.symm (hI9 _ (List.mem_of_getElem? (i := 5) rfl))) (fun q hq e => hoff2 q (.tail _ hq) (by rw [e]; exact List.mem_of_getElem? (i := 5) rfl)) s7 e7
    have NY := news_but NX (fun p hp => by
      rcases List.mem_cons.mp hp with rfl | hp
      · exact Ne.symm (hX6 _ (List.mem_of_getElem? (i := 7) rfl))
      · obtain ⟨x, hx, rfl⟩ := List.mem_map.mp hp
        exact Ne.symm (hR6 x hx _ (List.mem_of_getElem? (i := 7) rfl))) s7
    have N8 := news_rows N7 NY
    have hlen6 : nr.length = rows'.length := by have := congrArg List.length hnr; simpa [Mine.kvsOf] using this
    have hz6 : rows'.length ≤ 500 := by omega
    clear F6 N6 e7 s7 dP NX hX6 hR6 N7 NY
    dsimp only
    k_steps
    show wpAny _ _ _ _ _ _
    refine keys_comp rfl rfl (fun Q' hq => wpAny_Name (wpAny_loadName_cell rfl rfl rfl ⟨oP7, N8.get (List.mem_of_getElem? (i := 8) rfl), d7⟩ hq)) ⟨_, N8.get (.head _), rfl, _, rfl⟩ (by omega) (rows_at (get_more (fun q hq => N8 q (.tail _ hq))) kk6) ?_
    intro D8 h8 tk8 k8 e8 n8
    have N9 := add_new F7 N8 (fun c o _ e => k8 c o e) e8 n8
    have F9 := F7.keeps k8
    clear F7 N8 k8 e8 n8
    dsimp only
    k_steps
    show wpAny _ _ _ _ _ _
    refine keys_comp rfl rfl (fun Q' hq => wpAny_Name (wpAny_loadName_cell rfl rfl rfl ⟨oT4, N9.get (List.mem_of_getElem? (i := 8) rfl), d4⟩ hq)) ⟨_, N9.get (List.mem_of_getElem? (i := 16) rfl), rfl, _, rfl⟩ (by omega) (rows_at (get_rows (fun q hq => N9 q (.tail _ (.tail _ hq)))) hk2) ?_
    intro D10 h10 tk10 k10 e10 n10
    have e9 := k10 _ _ (N9.get (.head _))
    have N11 := news_keeps (news_sub N9 fun q hq => .tail _ hq) k10
    have F11 := F9.keeps k10
    clear F9 N9 k10 n10
    dsimp only
    k_steps
    show wpAny _ _ _ _ _ _
    have hkk : nr.map (·.key) = rows'.map (·.key) := by have := congrArg (List.map Prod.fst) hnr; simpa [Mine.kvsOf, Function.comp_def] using this
    have hth : nr.map (·.th) = rows'.map (·.th) := by have := congrArg (List.map Prod.snd) hnr; simpa [Mine.kvsOf, Function.comp_def] using this
    refine ne_keys ⟨_, e9, rfl, _, rfl⟩ ⟨_, e10, rfl, _, rfl⟩ hkk kk6 hk2 (show callerA.units + 3 < cLine by decide) ?_
    clear e9 e10 hnr hkk kk6
    k_steps
    show wpAny _ _ _ _ _ _
    with_reducible rename Fr _ _ _ _ => F12
    with_reducible rename News _ _ _ _ => N12
    refine same_comp (nr := nr) (rows := rows') rfl rfl rfl rfl rfl (N12.get (List.mem_of_getElem? (i := 8) rfl)) d7 (N12.get (List.mem_of_getElem? (i := 7) rfl)) d4 ⟨_, N12.get (.head _), rfl, _, rfl⟩ ⟨_, N12.get (List.mem_of_getElem? (i := 15) rfl), rfl, _, rfl⟩
      (fun x hx => ⟨_, get_more (fun q hq => N12 q (.tail _ hq)) x hx, rfl, _, rfl⟩) (fun x hx => ⟨_, get_rows (fun q hq => N12 q (.tail _ hq)) x hx, rfl, _, rfl⟩) hth hr2 (by omega) (fun Q' hq => ?hit) ?_
    case hit =>
      refine Call_ (nameX_B F12 X0 (topRead_of T0) (by k_is) (show bootBuiltins "range" = some (.type "range") by decide +kernel) (by decide) ?_)
      refine PyProof.Rows.callWith_type1 (PyProof.Rows.args_cons ?_)
      refine Call_ (nameX_B F12 X0 (topRead_of T0) (by k_is) boot_len (by decide) ?_)
      refine PyProof.Rows.callWith_builtin1 (PyProof.Rows.args_cons (wpAny_Name (wpAny_loadName_cell rfl rfl rfl ⟨oT4, N12.get (List.mem_of_getElem? (i := 7) rfl), d4⟩ (PyProof.Rows.args_nil ?_))))
      refine PyProof.Rows.len_list ⟨_, N12.get (List.mem_of_getElem? (i := 15) rfl), rfl, _, rfl⟩ (by rw [tab_size]; omega) (PyProof.Rows.args_nil (call_range_1 ?_))
      exact hq _ _ _ _ _ _ (Heap.get?_push_size _ rfl) (fun c o e => Heap.get?_push_of_some _ e)
    intro D13 h13 tk13 k13 e13 n13
    replace e13 : h13.get? D13 = some (W.listOf #[] 0) := e13
    have N13 := add_new F12 N12 (fun c o _ e => k13 c o e) e13 n13
    have F13 := F12.keeps k13
    clear F12 N12 k13 e13 n13 hth
    dsimp only
    k_steps
    show wpAny _ _ _ _ _ _
    with_reducible rename Fr _ _ _ _ => F14
    with_reducible rename News _ _ _ _ => N14
    refine ne_nil ⟨_, N14.get (List.mem_of_getElem? (i := 1) rfl), rfl, _, rfl⟩ ⟨_, N14.get (.head _), rfl, _, rfl⟩ (show callerA.units + 3 < cLine by decide) ?_
    k_steps
    · exfalso
      rename_i a1 a2
      exact a2 (by rw [hs2 a1])
    all_goals (
      show wpAny _ _ _ _ _ _
      with_reducible rename Fr _ _ _ _ => F15
      with_reducible rename News _ _ _ _ => N15
      have hj5 : k.fmod 5 = 0 ∨ k.fmod 5 = 1 ∨ k.fmod 5 = 2 ∨ k.fmod 5 = 3 ∨ k.fmod 5 = 4 := by
        have q1 : 0 ≤ k.fmod 5 := Int.fmod_nonneg_of_pos _ (by decide)
        have q2 : k.fmod 5 < 5 := Int.fmod_lt_of_pos _ (by decide)
        omega
      refine wpAny_call (lookedb_call B0 F15 (news_dup N15 (List.mem_of_getElem? (i := 11) rfl)) T0 no_dicts T0 rfl rfl (List.mem_of_getElem? (i := 12) rfl) hbbs (by decide) (by decide) hj5 ?_ X0 X0)
      intro h16 tk16 t16 g16 KT16 F16 N16 _ _
      have F17 := back_fr KT16 F16
      have N17 := back_news KT16 (news_sub N16 fun q hq => .tail _ hq)
      clear F15 N15 F16 N16 KT16
      dsimp only
      k_steps
      show wpAny _ _ _ _ _ _
      with_reducible rename Fr _ _ _ _ => F18
      with_reducible rename News _ _ _ _ => N18
      refine list_bare (X0.keeps F18.keep) (N18.get (List.mem_of_getElem? (i := 11) rfl)) (by simpa using hbbs) ?_
      intro a19 h19 tk19 k19 e19 n19
      replace e19 : h19.get? a19 = some (W.listOf #[] 0) := e19
      have N19 := add_new F18 N18 (fun c o _ e => k19 c o e) e19 n19
      have F19 := F18.keeps k19
      clear F18 N18 k19 e19 n19
      dsimp only
      k_steps
      show wpAny _ _ _ _ _ _
      with_reducible rename Fr _ _ _ _ => F20
      with_reducible rename News _ _ _ _ => N20
      refine ne_nil ⟨_, N20.get (List.mem_of_getElem? (i := 1) rfl), rfl, _, rfl⟩ ⟨_, N20.get (.head _), rfl, _, rfl⟩ (show callerA.units + 3 < cLine by decide) ?_
      k_steps
      refine law_end F20 (news_sub N20 fun q hq => .tail _ (.tail _ (.tail _ (.tail _ (.tail _ hq))))) hI9 hoff2 ?m1 ?m2 ?m3 d4 d7 Z2 I2 hk2 hr2 ?hl ?hv
      case m1 => rfl
      case m2 => rfl
      case m3 => rfl
      case hl => omega
      case hv => omega)
  case done =>
    intro m₁ h tk tb F N
    k_steps)
end
end

theorem PySem.Challenge.cw_il0026_01_holds : PySem.Challenge.rw_il0026_01.Holds := by
  exact Mine.law_walked
