import PyProof.Rows.All
import Wide.All
import OpenK.AllK
import Wide.FinOn
import PySem.Challenge.RW_pg0107_01
set_option Elab.async false
section
open PySem PySem.W PyProof.Rows
set_option Elab.async false
set_option maxRecDepth 100000
set_option maxHeartbeats 8000000
namespace Mine
open_top hd for PySem.Challenge.rw_pg0107_01
end Mine
end
section
open PySem PySem.W PyProof.Rows PySem.Calls PySem.Spec
set_option Elab.async false
set_option maxRecDepth 100000
set_option maxHeartbeats 8000000
namespace Mine
noncomputable abbrev LW := looseW hd.view_39 [Str.ofString "insort_right", Str.ofString "bisect_right", Str.ofString "insort_left", Str.ofString "bisect_left"]
section
variable {prog : Program} {w : World} {E : Value → Shared → Prop} {s : Shared} {K : Frag} {L : Addr} {h₀ base : Heap} {m mg mb : Str → Option Value} {news : List (Addr × Obj)} {p : Program} {loose : List Str} {mean : ExcName → Option Value} {Q : Value → Shared → Prop} {A₀ A : Around}
  {dp un : Nat} {gd : Option (List Code)} {cn : Str} {cs : Scope} {a : Addr} {ccd : Value} {cl : List (Str × Addr)} {outer : List Env} {env : Env}
/-- a def of the text is entered, its names bound as told -/
theorem enter_def {name qual : Str} {params : Arguments} {body : List Stmt} {scope : Scope} {dV kV doc pm cdv ct oc : Value} {an od : Option Addr} {osl : Array (Option Value)} {f : Addr} {args : List Value} (binds : List (Str × Value))
    (B : Below A₀ base outer h₀) (F : Fr h₀ L s.heap m) (X : K.In h₀) (N : News h₀ L s.heap news) (T : Top p loose mean mg mb h₀) (hk : cs.kind = .function)
    (ho : K.lookup f = some ⟨oc, od, .func (fnOf name qual params body scope dV kV doc pm an cdv ct), osl⟩) (hcd : codeIn K cdv qual = true) (hroom : dp < recursionLimit)
    (hbind : BindsTo s (fnOf name qual params body scope dV kV doc pm an cdv ct) ⟨args, []⟩ binds) (hloc : (binds.all fun x => decide (scope.names.lookup x.1 = some .local)) = true)
    (hco : scope.isCoroutine = false) (hgen : scope.isGenerator = false) (hk2 : scope.kind = .function)
    (hcell : ∀ x ∈ scope.names, x.2 ≠ .cell)
    (h : ∀ g L' h₁ tk, Fr h₀ L g m → Fr g L' h₁ (fun y => binds.reverse.lookup y) → News g L' h₁ news → Below (ktrTop dp un gd cn cs L a ccd cl outer) base (envX cn cs L a ccd cl :: outer) g → K.In g → Top p loose mean mg mb g → (∀ p ∈ news, p.1 < L') →
      wpAny (model prog w) ((ktrTop dp un gd cn cs L a ccd cl outer).deeper (envOf qual scope L' f cdv)) (execs body (envOf qual scope L' f cdv))
        (fun fl s' => LeaveK h₀ L m g (fun r s' => match r with | .ok (.ret v) => Q v s' | .ok _ => False | .error e => E e s') (match fl with | .ret v => v | _ => .none) s')
        (fun e s' => wpAny (model prog w) ((ktrTop dp un gd cn cs L a ccd cl outer).deeper (envOf qual scope L' f cdv)) (leaving (envOf qual scope L' f cdv) e) (fun _ s'' => E e s'') (fun e' s'' => E e' s'') s')
        { s with heap := h₁, toks := tk }) :
    wpAny (model prog w) (ktrTop dp un gd cn cs L a ccd cl outer) (call (.ref f) args) Q E s :=
  wpAny_call (callX_plain (cl := []) (env := envX cn cs L a ccd cl) B F N T.nolimit rfl rfl hk ((X.keeps F.keep) _ _ ho) rfl (codeRec_of (X.keeps F.keep) hcd) hroom hbind (locs hloc) (fun g L' h₁ FG F' N' B' st lt => h g L' h₁ _ FG F' N' B' (X.keeps st) (T.keeps st) lt) hcell hco hgen hk2)

theorem memX {env : Env} {L b : Addr} {outer : List Env} (hf : env.frame = some L) (hm : b ∈ (env :: outer).filterMap (·.frame)) : b = L ∨ b ∈ outer.filterMap (·.frame) := by
  obtain ⟨env', he, hf'⟩ := List.mem_filterMap.mp hm
  rcases List.mem_cons.mp he with rfl | he
  · exact .inl (Option.some.inj (hf'.symm.trans hf))
  · exact .inr (List.mem_filterMap.mpr ⟨env', he, hf'⟩)
theorem groundS (B : Below A₀ base outer h₀) (F : Fr h₀ L s.heap m) (N : News h₀ L s.heap news) (hA : A.frames = some (env :: outer)) (hf : env.frame = some L) (hke : env.scope.kind = .function) :
    ∃ oL es ep, (hideAll s.heap (news.map (·.1))).get? L = some oL ∧ oL.data = .dict es ep ∧ (∀ h', h'.get? L = some oL → Heap.Ns h' L m) ∧ (∀ (sl : Array (Option Value)) h', h'.get? L = some { oL with slots := sl } → Heap.Ns h' L m) ∧
      h₀.StaysIn (hideAll s.heap (news.map (·.1))) ∧ Below A base (env :: outer) (hideAll s.heap (news.map (·.1))) := by
  obtain ⟨FG, BG, st, _⟩ := groundX (R := fun _ _ => True) B F N hA hf hke
  obtain ⟨oL, es, ep, hL, hLd, hLk, hLf⟩ := FG.ns
  exact ⟨oL, es, ep, hL, hLd, fun h' e => ⟨oL, es, ep, e, hLd, hLk, hLf⟩, fun sl h' e => ⟨_, es, ep, e, hLd, hLk, hLf⟩, st, BG⟩
/-- the same of a def that catches: the frames below may have turned (their slots) -/
theorem enter_defS {name qual : Str} {params : Arguments} {body : List Stmt} {scope : Scope} {dV kV doc pm cdv ct oc : Value} {an od : Option Addr} {osl : Array (Option Value)} {f : Addr} {args : List Value} (binds : List (Str × Value))
    (B : Below A₀ base outer h₀) (F : Fr h₀ L s.heap m) (X : K.In h₀) (N : News h₀ L s.heap news) (T : Top p loose mean mg mb h₀) (XB : K.In base) (TB : Top p loose mean mg mb base) (D : KtsDicts (outer.filterMap (·.frame)) h₀) (hk : cs.kind = .function)
    (ho : K.lookup f = some ⟨oc, od, .func (fnOf name qual params body scope dV kV doc pm an cdv ct), osl⟩) (hcd : codeIn K cdv qual = true) (hroom : dp < recursionLimit)
    (hbind : BindsTo s (fnOf name qual params body scope dV kV doc pm an cdv ct) ⟨args, []⟩ binds) (hloc : (binds.all fun x => decide (scope.names.lookup x.1 = some .local)) = true)
    (hco : scope.isCoroutine = false) (hgen : scope.isGenerator = false) (hk2 : scope.kind = .function)
    (hcell : ∀ x ∈ scope.names, x.2 ≠ .cell)
    (h : ∀ g L' h₁ tk, Fr h₀ L g m → Fr g L' h₁ (fun y => binds.reverse.lookup y) → News g L' h₁ news → Below (ktrTop dp un gd cn cs L a ccd cl outer) base (envX cn cs L a ccd cl :: outer) g → K.In g → Top p loose mean mg mb g → KtsDicts ((envX cn cs L a ccd cl :: outer).filterMap (·.frame)) g → (∀ p ∈ news, p.1 < L') →
      wpAny (model prog w) ((ktrTop dp un gd cn cs L a ccd cl outer).deeper (envOf qual scope L' f cdv)) (execs body (envOf qual scope L' f cdv))
        (fun fl s' => LeaveS ((envX cn cs L a ccd cl :: outer).filterMap (·.frame)) A₀ base outer K p loose mean mg mb h₀ h₀ L m g (fun r s' => match r with | .ok (.ret v) => Q v s' | .ok _ => False | .error e => E e s') (match fl with | .ret v => v | _ => .none) s')
        (fun e s' => wpAny (model prog w) ((ktrTop dp un gd cn cs L a ccd cl outer).deeper (envOf qual scope L' f cdv)) (leaving (envOf qual scope L' f cdv) e) (fun _ s'' => E e s'') (fun e' s'' => E e' s'') s')
        { s with heap := h₁, toks := tk }) :
    wpAny (model prog w) (ktrTop dp un gd cn cs L a ccd cl outer) (call (.ref f) args) Q E s := by
  have X₁ := X.keeps F.keep
  refine wpAny_call (codeAny_call_def (fd := fnOf name qual params body scope dV kV doc pm an cdv ct) (body := body) (binds := binds) hroom (X₁ _ _ ho) rfl (T.nolimit.keeps F.keep) (codeRec_of X₁ hcd) rfl hbind hcell (locs hloc) (fun h₁ hns hk₁ => ?_) hco hgen hk2)
  have hf : (envX cn cs L a ccd cl).frame = some L := rfl
  obtain ⟨oL, es, ep, hLg, hLd, hN, hNs, st, B₂⟩ := groundS (A := ktrTop dp un gd cn cs L a ccd cl outer) (env := envX cn cs L a ccd cl) B F N rfl hf hk
  refine wpAny_mono (h _ s.heap.objs.size h₁ _ ⟨hN _ hLg, st, F.above⟩ ⟨hns, fun b o e => hk₁ b o (of_hideAll _ e), Nat.le_of_eq (hideAll_size _ _)⟩
    (fun p hp => ⟨hk₁ _ _ (N p hp).1, Nat.ne_of_lt (Heap.lt_size (N p hp).1), hideAll_none _ (List.mem_map_of_mem hp)⟩) B₂ (X.keeps st) (T.keeps st) (fun b hb => by
      rcases memX hf hb with rfl | hb
      · exact ⟨oL, es, ep, hLg, hLd⟩
      · obtain ⟨o, es', n', ho', hd'⟩ := D b hb
        exact ⟨o, es', n', st b o ho', hd'⟩) (fun p hp => Heap.lt_size (N p hp).1)) (fun fl s' hl => ?_) fun _ _ y => y
  have nL₀ : h₀.get? L = none := kts_self F
  rcases hl with ⟨L', m', news', F', N', k⟩ | ⟨g', L', m', news', T', F', N', k⟩
  · refine k ⟨hN _ (F'.keep _ _ hLg), fun b o e => F'.keep b o (st b o e), F.above⟩ fun p hp => ⟨(N' p hp).1, fun q => ?_, ?_⟩
    · have := (N' p hp).2.2; rw [q, hLg] at this; cases this
    · cases q : h₀.get? p.1 with
      | none => rfl
      | some o => have := (N' p hp).2.2; rw [st _ _ q] at this; cases this
  obtain ⟨sl, hs⟩ := T'.up hLg
  obtain ⟨T₁, S₁⟩ := kts_turn_at (h := s'.heap) (fs := outer.filterMap (·.frame)) (g := h₀)
    (fun b hb => by
      obtain ⟨_, o, ho', _⟩ := B.frames.mem hb
      exact ⟨o, ho'⟩)
    (fun b o e nmem => F'.keep b o (T'.other b o (st b o e) (fun q => by
      rcases memX hf q with z | z
      · rw [z, nL₀] at e
        cases e
      · exact nmem z)))
    (fun b o e hm => by
      obtain ⟨sl', hs'⟩ := T'.up (st b o e)
      exact ⟨sl', F'.keep _ _ hs'⟩)
  have B₃ : Below A₀ base outer (ktsHeap s'.heap (outer.filterMap (·.frame)) h₀) := ⟨B.stack, fun b o e => T₁.other b o (B.stays b o e) (fun hm => by
    rw [(B.frames.mem hm).1] at e
    cases e), B.frames.of_keeps fun b o e _ => by
    obtain ⟨sl', hs'⟩ := T₁.up e
    exact ⟨_, hs', rfl⟩⟩
  refine k _ T₁ ⟨hNs sl _ (F'.keep _ _ hs), S₁, by rw [T₁.size]; exact F.above⟩ (fun p hp => ⟨(N' p hp).1, fun q => ?_, ?_⟩) B₃ (XB.keeps B₃.stays) (TB.keeps B₃.stays) (D.turn T₁)
  · have := (N' p hp).2.2; rw [q, hs] at this; cases this
  · refine T₁.none_ _ ?_
    cases q : h₀.get? p.1 with
    | none => rfl
    | some o =>
      obtain ⟨sl', hs'⟩ := T'.up (st _ _ q)
      have := (N' p hp).2.2
      rw [hs'] at this
      cases this
end
end Mine
end
section
open PySem PySem.W PyProof.Rows PySem.Calls PySem.Spec PyProof.V
set_option Elab.async false
set_option maxRecDepth 100000
set_option maxHeartbeats 8000000
namespace Mine
inductive Rd where
  | bad (e : Bool)
  | ok (k v : Str)
deriving DecidableEq
def eqS : Str := Str.ofString "="
def qS : Str := Str.ofString "\""
def parse1 (t : Str) : Option Rd := match Txt.splitMax t eqS 1 with
  | [_] => some (.bad false)
  | [k, v] => if v.length = 0 then some (.bad true) else if Txt.item v 0 = qS ∧ Txt.item v (-1) = qS then some (.ok k (Txt.slice v (some 1) (some (-1)))) else some (.ok k v)
  | _ => none
def behind (g : Str) : List Str := [g, qS ++ g ++ qS, g ++ eqS ++ g, qS, Str.ofString "", Str.ofString "", qS ++ g, qS ++ g ++ Str.ofString "=\""]
def worth (g b : Str) : List Str := [g, g, b, Str.ofString "", Str.ofString "", Str.ofString "", b, g ++ eqS]
def itemOf (key g : Str) (d : Nat) : Str × Rd :=
  if d = 4 then (key ++ eqS, .bad true) else if d = 5 then (key ++ g, .bad false) else
    let b := (behind g).getD d Str.empty
    (key ++ eqS ++ b, .ok key ((worth g b).getD d Str.empty))
def keysL : List Str := [Str.ofString "k", Str.ofString "l", Str.ofString ""]
def signsL : List Str := (List.range 9).map (fun i => ⟨#[97 + i]⟩) ++ (List.range 5).map (fun i => ⟨#[118 + i]⟩)
theorem items_say : ∀ key ∈ keysL, ∀ g ∈ signsL, ∀ d ∈ List.range 8, parse1 (itemOf key g d).1 = some (itemOf key g d).2 := by decide +kernel
end Mine
namespace Mine
def firstBad : List Rd → Option Bool
  | [] => none
  | .bad b :: _ => some b
  | .ok _ _ :: r => firstBad r
def putR (D : List (PyData × PyData)) : Rd → List (PyData × PyData)
  | .ok k v => putD (.str k) (.str v) D
  | .bad _ => D
def pairs (rs : List Rd) : List (PyData × PyData) := rs.foldl putR []
def errS : Bool → String
  | false => "ValueError"
  | true => "IndexError"
theorem firstBad_append (a b : List Rd) : firstBad (a ++ b) = (firstBad a).or (firstBad b) := by
  induction a with
  | nil => simp [firstBad]
  | cons x r ih => cases x <;> simp [firstBad, ih]
theorem pairs_snoc (a : List Rd) (r : Rd) : pairs (a ++ [r]) = putR (pairs a) r := by simp [pairs]
theorem pairs_length (a : List Rd) : (pairs a).length ≤ a.length := by
  suffices h : ∀ (l : List Rd) D, (l.foldl putR D).length ≤ D.length + l.length by simpa [pairs] using h a []
  intro l
  induction l with
  | nil => intro D; simp
  | cons x r ih =>
    intro D
    have h1 := ih (putR D x)
    have h2 : (putR D x).length ≤ D.length + 1 := by
      cases x with
      | bad => simp [putR]
      | ok k v => exact putD_length_le _ _ _
    simp only [List.foldl_cons, List.length_cons]
    omega
end Mine
namespace Mine
theorem parse1_cases {t : Str} {r : Rd} (h : parse1 t = some r) :
    (∃ x, Txt.splitMax t eqS 1 = [x] ∧ r = .bad false) ∨ (∃ k v, Txt.splitMax t eqS 1 = [k, v] ∧ v.length = 0 ∧ r = .bad true) ∨
    (∃ k v, Txt.splitMax t eqS 1 = [k, v] ∧ 1 ≤ v.length ∧ r = .ok k (if Txt.item v 0 = qS ∧ Txt.item v (-1) = qS then Txt.slice v (some 1) (some (-1)) else v)) := by
  unfold parse1 at h
  split at h
  · rename_i x e
    exact .inl ⟨x, e, (Option.some.inj h).symm⟩
  · rename_i k v e
    by_cases hv : v.length = 0
    · rw [if_pos hv] at h
      exact .inr (.inl ⟨k, v, e, hv, (Option.some.inj h).symm⟩)
    · rw [if_neg hv] at h
      refine .inr (.inr ⟨k, v, e, by omega, ?_⟩)
      split at h
      · rename_i hc; rw [if_pos hc]; exact (Option.some.inj h).symm
      · rename_i hc; rw [if_neg hc]; exact (Option.some.inj h).symm
  · cases h
theorem turn_facts {ts : List Str} {rs : List Rd} {pre post : List Dat} {d : Dat} (e : ts.map Dat.str = pre ++ d :: post) (hs : ts.map parse1 = rs.map some) :
    ∃ t r, d = .str t ∧ t ∈ ts ∧ parse1 t = some r ∧ rs.take (pre.length + 1) = rs.take pre.length ++ [r] ∧ rs = rs.take pre.length ++ r :: rs.drop (pre.length + 1) := by
  have hlen : ts.length = rs.length := by simpa using congrArg List.length hs
  have hj : pre.length < ts.length := by have := congrArg List.length e; simp at this; omega
  have hj' : pre.length < rs.length := hlen ▸ hj
  have h1 : (ts.map Dat.str)[pre.length]? = some d := by rw [e]; simp
  have h2 : (ts.map Dat.str)[pre.length]? = some (Dat.str ts[pre.length]) := by simp [hj]
  have h3 : (ts.map parse1)[pre.length]? = some (parse1 ts[pre.length]) := by simp [hj]
  rw [hs] at h3
  have h4 : (rs.map some)[pre.length]? = some (some rs[pre.length]) := by simp [hj']
  refine ⟨ts[pre.length], rs[pre.length], ?_, List.getElem_mem hj, ?_, ?_, ?_⟩
  · rw [h1] at h2; exact Option.some.inj h2
  · rw [h4] at h3; exact (Option.some.inj h3).symm
  · simp
  · simp
end Mine
end
section
open PySem PySem.W PyProof.Rows PySem.Calls PySem.Spec
set_option Elab.async false
set_option maxRecDepth 100000
set_option maxHeartbeats 8000000
namespace Mine
theorem one_of {l : List (Str × Tok)} {k : Str} (e : l.map (·.1) = [k]) : ∃ t, l = [(k, t)] := by
  cases l with
  | nil => cases e
  | cons p l =>
    cases l with
    | cons q l => cases e
    | nil => cases e; exact ⟨p.2, rfl⟩
theorem two_of {l : List (Str × Tok)} {k v : Str} (e : l.map (·.1) = [k, v]) : ∃ t u, l = [(k, t), (v, u)] := by
  cases l with
  | nil => cases e
  | cons p l =>
    obtain ⟨e1, e2⟩ := List.cons.inj e
    obtain ⟨u, rfl⟩ := one_of e2
    subst e1
    exact ⟨p.2, u, rfl⟩
section
variable {prog : Program} {w : World} {A : Around} {E : Value → Shared → Prop} {s : Shared} {h₀ : Heap} {L : Addr} {m : Str → Option Value} {news : List (Addr × Obj)}
theorem split_two {x y k v : Str} {t u tv : Tok} {Q : Value → Shared → Prop} (F : Fr h₀ L s.heap m) (N : News h₀ L s.heap news) (e : Txt.splitMax x y 1 = [k, v]) (hy : (y.length == 0) = false) (hsz : x.length ≤ 64)
    (h : ∀ D t1 t2 h' tk, Fr h₀ L h' m → News h₀ L h' ((D, listOf #[.str k t1, .str v t2] 0) :: news) → (∀ p ∈ news, p.1 < D) → Q (.ref D) { s with heap := h', toks := tk }) :
    wpAny (model prog w) A (call (.builtin "str.split") [.str x t, .str y u, .int 1 tv]) Q E s := by
  refine splitN2A F N hy (by decide) (fun l h' tk e' _ _ _ F' N' => ?_) (by rw [sizeLine_eq]; omega)
  rw [e] at e'
  obtain ⟨t1, t2, rfl⟩ := two_of e'
  exact h _ t1 t2 h' tk F' N' (fun p hp => Heap.lt_size (N p hp).1)
theorem split_one {x y k : Str} {t u tv : Tok} {Q : Value → Shared → Prop} (F : Fr h₀ L s.heap m) (N : News h₀ L s.heap news) (e : Txt.splitMax x y 1 = [k]) (hy : (y.length == 0) = false) (hsz : x.length ≤ 64)
    (h : ∀ D t1 h' tk, Fr h₀ L h' m → News h₀ L h' ((D, listOf #[.str k t1] 0) :: news) → (∀ p ∈ news, p.1 < D) → Q (.ref D) { s with heap := h', toks := tk }) :
    wpAny (model prog w) A (call (.builtin "str.split") [.str x t, .str y u, .int 1 tv]) Q E s := by
  refine splitN2A F N hy (by decide) (fun l h' tk e' _ _ _ F' N' => ?_) (by rw [sizeLine_eq]; omega)
  rw [e] at e'
  obtain ⟨t1, rfl⟩ := one_of e'
  exact h _ t1 h' tk F' N' (fun p hp => Heap.lt_size (N p hp).1)
/-- two targets, a list of one: ValueError -/
theorem unpack_few {l : Addr} {x : Value} {k : Nat} {env : Env} {elts : List PySem.Expr} {pos : Pos} {Q : Unit → Shared → Prop} (hh : A.handled = none) (F : Fr h₀ L s.heap m) (N : News h₀ L s.heap news) (hl : s.heap.IsList l #[x])
    (hn : (assignEach elts env).length = 2) (hstar : (assignEach elts env).findIdx? (·.1) = none)
    (hE : ∀ h₁ h' tk e, Fr h₀ L h₁ m → News h₀ L h₁ news → Heap.NewExc h₁ h' e "ValueError" → E (.ref e) { s with heap := h', toks := tk }) :
    wpAny (model prog w) A (assign (.Tuple elts k pos) env (.ref l)) Q E s := by
  rw [assign_Tuple]
  refine wpAny_bind (wpAny_standAt ?_)
  unfold unpack
  rw [hn, hstar]
  refine wpAny_bind (wpAny_holding ?_)
  have hlt : l ≠ s.heap.objs.size := by obtain ⟨o, ho, _⟩ := hl; exact Nat.ne_of_lt (Heap.lt_size ho)
  unfold unpackItems
  refine wpAny_bind ?_
  unfold notIterableAtAll
  refine wpAny_bind (wpAny_specialOf hl.typeIs slot_list_iter.lookup ?_)
  refine wpAny_pure ?_
  simp only [Bool.false_eq_true, if_false]
  refine wpAny_bind (wpAny_holding (wpAny_pyIter_list hl ?_))
  refine wpAny_bind (wpAny_holding ?_)
  show wpAny _ _ (pyNext (.ref s.heap.objs.size) >>= _) _ _ _
  refine wpAny_bind (wpAny_pyNext_list_item (i := 0) ⟨_, Heap.get?_push_size _ rfl, rfl, rfl⟩ (hl.push _) (x := x) (by simp) fun h₁ hit₁ hs₁ => ?_)
  refine wpAny_bind (wpAny_holding ?_)
  have hl₁ : h₁.IsList l #[x] := (hl.push _).extBut hs₁.extBut hlt
  show wpAny _ _ (pyNext (.ref s.heap.objs.size) >>= _) _ _ _
  refine wpAny_bind (wpAny_pyNext_list_end hh hit₁ hl₁ (by simp) fun h₂ he₂ => ?_)
  refine wpAny_pure ?_
  refine wpAny_pure ?_
  simp only [List.length_cons, List.length_nil]
  have he : Heap.ExtBut s.heap.objs.size s.heap h₂ := fun b o hb e => he₂ b o hb (hs₁.extBut b o hb (Heap.get?_push_of_some _ e))
  have F₂ : Fr h₀ L h₂ m := F.extBut he (Nat.le_refl _)
  have N₂ : News h₀ L h₂ news := N.extBut he (Nat.le_refl _)
  rw [if_pos (by decide)]
  refine wpAny_bind (wpAny_rule ?_)
  have hE' : ∀ h' tk e, Heap.NewExc h₂ h' e "ValueError" → E (.ref e) { s with heap := h', toks := tk } := fun h' tk e x => hE h₂ h' tk e F₂ N₂ x
  first
    | exact wpAny_bind (wpAny_raiseErrorMade plainExc_ValueError hh hE' (by rw [PySem.ofString_length, sizeLine_eq]; decide +kernel))
    | exact wpAny_raiseErrorMade plainExc_ValueError hh hE' (by rw [PySem.ofString_length, sizeLine_eq]; decide +kernel)
end
end Mine
namespace Mine
open PyProof.V
def datOf : PyData → Dat
  | .none => .none
  | .bool b => .bool b
  | .int i => .int i
  | .str x => .str x
  | _ => .none
def pairDat (p : PyData × PyData) : Dat := .tuple [datOf p.1, datOf p.2]
theorem flat_dat {news : List (Addr × Obj)} {v : Value} {x : Str} (h : Flat v (.str x)) : DatIn news v (datOf (.str x)) := by
  have h' := h default
  cases h'
  exact .str _ _
theorem open_dat {B : Addr} {news : List (Addr × Obj)} {C : List Value → List (Addr × Obj) → Prop} : ∀ {kvs : List (Str × Value)} {D : List (PyData × PyData)} (vs : List Value) (tups : List (Addr × Obj)) (ds : List Dat), FlatPairs PyData.str kvs D → (∀ p ∈ D, ∃ x, p.2 = .str x) → DatAll tups vs ds → (∀ q ∈ tups, B < q.1) →
    (∀ vs' tups', DatAll tups' vs' (ds ++ D.map pairDat) → (∀ q ∈ tups', B < q.1) → C vs' tups') → KdxOpen B news (kvs.map fun p => (kyVal (PyData.str p.1), p.2)) vs tups C :=
  by
  intro kvs D vs tups ds hf
  induction hf generalizing vs tups ds with
  | nil => exact fun _ hd hl h => .nil (h vs tups (by simpa using hd) hl)
  | @cons k v d kvs D hv r ih =>
    intro hs hd hl h
    obtain ⟨x, hx⟩ := hs _ (.head _)
    have hx' : d = .str x := hx
    subst hx'
    refine .cons fun a t h1 _ h3 => ih _ _ (ds ++ [pairDat (.str k, .str x)]) (fun p hp => hs p (.tail _ hp)) ?_ ?_ fun vs' tups' h4 h5 => h vs' tups' (by simpa using h4) h5
    · refine DatAll.append (hd.mono fun p hp => .tail _ hp) (.one ?_)
      exact .tuple (vs := [kyVal (.str k) t, v]) (.head _) (.cons (.str k t) (.cons (flat_dat hv) .nil))
    · intro q hq
      rcases List.mem_cons.mp hq with rfl | hq
      · exact h1
      · exact hl q hq
theorem flatPairs_length {kvs : List (Str × Value)} {D : List (PyData × PyData)} (h : FlatPairs PyData.str kvs D) : kvs.length = D.length := by
  induction h with
  | nil => rfl
  | cons _ _ ih => simp [ih]
theorem putD_strs {D : List (PyData × PyData)} {k v : Str} (h : ∀ p ∈ D, ∃ x, p.2 = .str x) : ∀ p ∈ putD (.str k) (.str v) D, ∃ x, p.2 = PyData.str x := by
  intro p hp
  unfold putD at hp
  split at hp
  · obtain ⟨q, hq, rfl⟩ := List.mem_map.mp hp
    split
    · exact ⟨v, rfl⟩
    · exact h q hq
  · rcases List.mem_append.mp hp with hp | hp
    · exact h p hp
    · exact ⟨v, by rw [List.mem_singleton.mp hp]⟩
theorem pairs_strs (rs : List Rd) : ∀ p ∈ pairs rs, ∃ x, p.2 = PyData.str x := by
  suffices h : ∀ (l : List Rd) D, (∀ p ∈ D, ∃ x, p.2 = PyData.str x) → ∀ p ∈ l.foldl putR D, ∃ x, p.2 = PyData.str x from h rs [] (fun _ hp => nomatch hp)
  intro l
  induction l with
  | nil => exact fun D h => h
  | cons r l ih =>
    intro D h
    refine ih _ ?_
    cases r with
    | bad b => exact h
    | ok k v => exact putD_strs h
end Mine
end
section
open PySem PySem.W PyProof.Rows PySem.Calls PySem.Spec PyProof.V
set_option Elab.async false
set_option maxRecDepth 100000
set_option maxHeartbeats 8000000
set_option pp.deepTerms false
set_option pp.proofs false
namespace Mine
local macro_rules | `(tactic| k_room) => `(tactic| ktr_room)
/-- a place where the walk waits -/
def Wait (P : Prop) : Prop := P
theorem Wait.out {P : Prop} (h : Wait P) : P := h
theorem Wait.mk {P : Prop} (h : P) : Wait P := h
theorem wait_at {M : Model} {A : Around} {α : Type} {t : Sem α} {Q : α → Shared → Prop} {E : Value → Shared → Prop} {s : Shared} (h : Wait (wpAny M A t Q E s)) : wpAny M A t Q E s := h
/-- what the comparison p < q says, wherever the ledger stands -/
def CmpN (w : World) (news : List (Addr × Obj)) (p q : Value) (b : Bool) : Prop :=
  ∀ (A : Around) (Q : Value → Shared → Prop) (E : Value → Shared → Prop) (s : Shared) (h₀ : Heap) (L : Addr) (nw : List (Addr × Obj)), News h₀ L s.heap nw → (∀ x ∈ news, x ∈ nw) → A.units + 64 < cLine → Q (.bool b) s → wpAny (model PySem.Challenge.rw_pg0107_01.row.prog w) A (compareOp .Lt p q) Q E s
theorem item_at {prog : Program} {w : World} {A : Around} {E : Value → Shared → Prop} {s : Shared} {h₀ : Heap} {L : Addr} {news : List (Addr × Obj)} {value slice : PySem.Expr} {l : Addr} {vs : List Value} {n : Nat} {k : Int} {u : Tok} {v : Value} {Q : Value → Shared → Prop}
    (N : News h₀ L s.heap news) (hm : (l, listOf vs.toArray n) ∈ news) (h0 : 0 ≤ k) (hhi : k < 2 ^ 63) (hx : vs[k.toNat]? = some v) (h : Q v s)
    (hs : subscripted slice false (.ref l) (.int k u) = operate [.ref l, .int k u] (getItem (.ref l) (.int k u)) := by with_unfolding_all rfl) :
    wpAny (model prog w) A (subscriptTail value slice (.ref l) (.int k u)) Q E s :=
  have hl : s.heap.IsList l vs.toArray := News.isList N hm
  tail_any hl.typeIs slot_list_getitem.lookup (wpAny_getItem_list hl h0 hhi (by simpa using hx) h) hs
theorem mid_facts {lo hi : Int} (h0 : 0 ≤ lo) (h1 : lo < hi) : lo ≤ (lo + hi).fdiv 2 ∧ (lo + hi).fdiv 2 < hi := by
  rw [Int.fdiv_eq_ediv_of_nonneg _ (by omega)]
  omega
theorem len_at {prog : Program} {w : World} {A : Around} {E : Value → Shared → Prop} {s : Shared} {h₀ : Heap} {L : Addr} {news : List (Addr × Obj)} {l : Addr} {vs : List Value} {n : Nat} {Q : Value → Shared → Prop}
    (N : News h₀ L s.heap news) (hm : (l, listOf vs.toArray n) ∈ news) (hf : vs.length ≤ 64) (h : ∀ t tk', Q (.int vs.length t) { s with toks := tk' }) : wpAny (model prog w) A (call (.builtin "len") [.ref l]) Q E s :=
  call_len_list (News.isList N hm) (by simp; omega) (by simpa using h _ _)
section
variable {prog : Program} {w : World} {A : Around} {E : Value → Shared → Prop} {s : Shared} {env : Env} {test : PySem.Expr} {body orelse : List Stmt} {Q : Flow → Shared → Prop}
theorem while_ind {α : Type} (I : α → Heap → Prop) (μ : α → Nat) (c : α) {h : Heap} {tk : Nat} (hI : I c h)
    (step : ∀ c h tk, I c h → (∀ c' h' tk', μ c' < μ c → I c' h' → WhlRest prog w A E env test body orelse Q 0 { s with heap := h', toks := tk' }) → WhlRest prog w A E env test body orelse Q 1 { s with heap := h, toks := tk }) :
    WhlRest prog w A E env test body orelse Q 0 { s with heap := h, toks := tk } := by
  suffices H : ∀ (n : Nat) (c : α) (h : Heap) (tk : Nat), μ c < n → I c h → WhlRest prog w A E env test body orelse Q 0 { s with heap := h, toks := tk } from H (μ c + 1) c h tk (Nat.lt_succ_self _) hI
  intro n
  induction n with
  | zero => exact fun c h tk hlt _ => absurd hlt (Nat.not_lt_zero _)
  | succ n ih => exact fun c h tk hlt hI => step c h tk hI fun c' h' tk' hlt' hI' => ih c' h' tk' (Nat.lt_of_lt_of_le hlt' (Nat.le_of_lt_succ hlt)) hI'
end
theorem fr_eq {h₀ h : Heap} {L : Addr} {m m' : Str → Option Value} (F : Fr h₀ L h m) (e : ∀ y, m' y = m y) : Fr h₀ L h m' := (funext e : m' = m) ▸ F
def bisM (l : Addr) (xv : Value) (lo hi : Int) (tl th : Tok) (u : Str → Option Value) : Str → Option Value := fun y =>
  if y = Str.ofString "lo" then some (.int lo tl) else if y = Str.ofString "hi" then some (.int hi th) else if y = Str.ofString "mid" then u y else List.lookup y [(Str.ofString "key", .none), (Str.ofString "x", xv), (Str.ofString "a", .ref l)]
theorem bisM_of {h₀ h : Heap} {L l : Addr} {xv : Value} {m : Str → Option Value} {lo hi : Int} {tl th : Tok} (F : Fr h₀ L h m) (h1 : m (Str.ofString "lo") = some (.int lo tl)) (h2 : m (Str.ofString "hi") = some (.int hi th))
    (h3 : ∀ y, y ≠ Str.ofString "lo" → y ≠ Str.ofString "hi" → y ≠ Str.ofString "mid" → m y = List.lookup y [(Str.ofString "key", .none), (Str.ofString "x", xv), (Str.ofString "a", .ref l)]) : ∃ tl th u, Fr h₀ L h (bisM l xv lo hi tl th u) := by
  refine ⟨tl, th, m, fr_eq F fun y => ?_⟩
  unfold bisM
  by_cases a : y = Str.ofString "lo"
  · rw [if_pos a, a]; exact h1.symm
  · rw [if_neg a]
    by_cases b : y = Str.ofString "hi"
    · rw [if_pos b, b]; exact h2.symm
    · rw [if_neg b]
      by_cases c : y = Str.ofString "mid"
      · rw [if_pos c]
      · rw [if_neg c]; exact (h3 y a b c).symm
noncomputable def fdAt (w : World) (f : Addr) : FuncData := match (hd.heap_39 w.params).lookup f with
  | some ⟨_, _, .func fd, _⟩ => fd
  | _ => fnOf (Str.ofString "") (Str.ofString "") { posonlyargs := [], args := [], vararg := none, kwonlyargs := [], kw_defaults := [], kwarg := none, defaults := [] } [] { kind := .function, names := [], isGenerator := false, isCoroutine := false, more := [] } .none .none .none .none none .none .none
end Mine
end
section
open PySem PySem.W PyProof.Rows PySem.Calls PySem.Spec PyProof.V
set_option Elab.async false
set_option maxRecDepth 100000
set_option maxHeartbeats 8000000
set_option pp.deepTerms false
set_option pp.proofs false
namespace Mine
local macro_rules | `(tactic| k_room) => `(tactic| ktr_room)
local macro_rules | `(tactic| k_all) => `(tactic| assumption)
local macro_rules | `(tactic| kxi_size) => `(tactic| (rw [sizeLine_eq]; omega))
local macro_rules | `(tactic| walk_at "InvEndG") => `(tactic| fail)
local macro_rules | `(tactic| walk_at "call builtin:str.split") => `(tactic| refine wait_at ?_)
local macro_rules | `(tactic| walk_at "setItem ref str") => `(tactic| refine wait_at ?_)
theorem datAll_strs {news : List (Addr × Obj)} {vs : List Value} {ts : List Str} (h : StrsAre vs ts) : DatAll news vs (ts.map Dat.str) := by
  induction h with
  | nil => exact .nil
  | cons y t _ ih => exact .cons (.str y t) ih
theorem parse_spec {w : World} {mean : ExcName → Option Value} {mg mb : Str → Option Value} {dp un : Nat} {gd : Option (List Code)} {cn : Str} {cs : Scope} {a : Addr} {ccd : Value} {cl : List (Str × Addr)} {outer : List Env} {A₀ : Around} {base h₀ : Heap} {L : Addr} {m : Str → Option Value} {news : List (Addr × Obj)} {s : Shared} {Q E : Value → Shared → Prop}
   {l : Addr} {vs : List Value} {n : Nat} {ts : List Str} {rs : List Rd}
   (B : Below A₀ base outer h₀) (F : Fr h₀ L s.heap m) (X : (hd.heap_39 w.params).In h₀) (N : News h₀ L s.heap news) (T : Top hd.view_39 LW mean mg mb h₀) (hk : cs.kind = .function)
   (hl : (l, listOf vs.toArray n) ∈ news) (hv : StrsAre vs ts) (hs : ts.map parse1 = rs.map some) (hln : ∀ t ∈ ts, t.length ≤ 16) (htl : ts.length ≤ 8)
   (hd : dp < recursionLimit)
   (ret : ∀ d o kvs h' tk', firstBad rs = none → Fr h₀ L h' m → News h₀ L h' ((d, o) :: news) → (∀ p ∈ news, p.1 < d) → o.IsDictOf (strKind PySem.Challenge.rw_pg0107_01.row.prog w) kvs → FlatPairs PyData.str kvs (pairs rs) → (d == sysModules) = false → Q (.ref d) { s with heap := h', toks := tk' })
   (err : ∀ b e G h' tk', firstBad rs = some b → Fr h₀ L G m → RaisedSN base G (envX cn cs L a ccd cl :: outer) e (.type (errS b)) news h' → G.UpToSlots h' → E (.ref e) { s with heap := h', toks := tk' }) :
   wpAny (model PySem.Challenge.rw_pg0107_01.row.prog w) (ktrTop dp un gd cn cs L a ccd cl outer) (call (.ref 21) [.ref l]) Q E s := by
  revert X; k_fill; intro X
  k_dflt (refine enter_def [(Str.ofString "l", .ref l)] B F X N T hk (by k_is) (by k_is) (by ktr_room) (BindsTo.of_eq rfl) (by rfl) rfl rfl rfl (by decide) ?_)
  intro g L' h₁ tk FG F' N' B' X' T' lt'
  clear F N B X T
  k_fold
  w_top off
  k_steps
  rename Fr _ _ _ _ => lF
  refine For_invVF lF (by rfl) (by rfl) ?_ (by intro _; rfl) (by passes_own)
  k_steps
  rename News _ _ _ _ => lN
  rename (∀ p, p ∈ news → _ < _) => lt2
  rename Obj.IsDictOf (strKind _ _) _ _ => hdo
  rename (_ == sysModules) = false => hsm
  rename_i d h2 o h3 _ _ _
  refine kd_listL (σ := Obj × List (Str × Value)) (fun c => [(d, c.1)]) news (fun _ => [(Str.ofString "parsed", Value.ref d)]) (fun _ c => c.1.IsDictOf (strKind PySem.Challenge.rw_pg0107_01.row.prog w) c.2)
    [Str.ofString "k", Str.ofString "v"] (fun pre c => firstBad (rs.take pre.length) = none ∧ FlatPairs PyData.str c.2 (pairs (rs.take pre.length))) (d :: news.map (·.1)) (o, []) rfl hl (datAll_strs hv) lF lN ?_ (fun _ => rfl) hdo ?_ ⟨rfl, .nil⟩ ?_ ?_
  · simp
  · simp
  · intro c tl pre dd post v u h tk own e hmem hD hsep hoff hF hP F₁ N₁
    obtain ⟨t, r, rfl, ht, hr, htake, hsp⟩ := turn_facts e hs
    have hlt := hln t ht
    cases hD
    rename_i tk0
    have hne : ∀ p ∈ news ++ (tl ++ own), p.1 ≠ d := by
      intro p hp
      rcases List.mem_append.mp hp with h | h
      · exact Nat.ne_of_lt (lt2 p h)
      · exact hoff p h d (.head _)
    generalize hrest : news ++ (tl ++ own) = rest at N₁ hne
    have N₂ : News g L' h ((d, c.1) :: rest) := N₁
    clear N₁ lN lF
    show wpAny _ _ _ _ _ _
    k_fold
    dsimp only [kstB] at F₁
    obtain ⟨hP1, hP2⟩ := hP
    have hsz : (pairs (rs.take pre.length)).length ≤ sizeLine := by
      have h1 := pairs_length (rs.take pre.length)
      have h2 : rs.length = ts.length := by simpa using (congrArg List.length hs).symm
      rw [List.length_take] at h1
      rw [sizeLine_eq]; omega
    rcases parse1_cases hr with ⟨x, hx, rfl⟩ | ⟨k, v, hx, hv, rfl⟩ | ⟨k, v, hx, hv, rfl⟩
    · k_steps
      refine Wait.mk ?_
      refine split_one (by k_asm) (by k_asm) (by assumption) (by decide) (by omega) ?_
      intro D' _ h' _ _ _ l1
      k_lt l1
      k_steps
      rename Fr g L' _ _ => lF
      rename News g L' _ _ => lN
      k_dflt (refine unpack_few rfl lF lN (News.isList lN (.head _)) rfl rfl ?_)
      intro h₂ h₃ tk₂ e₂ F₂ N₃ hx'
      have N₄ : News g L' h₂ news := fun p hp => N₃ p (.tail _ (.tail _ (by rw [← hrest]; exact List.mem_append.mpr (.inl hp))))
      refine leave_newS B' hx' F₂ N₄ ?_
      intro h' S' R' U'
      exact err false e₂ g h' _ (by rw [hsp, firstBad_append, hP1]; rfl) FG S' U'
    · k_steps
      refine Wait.mk ?_
      refine split_two (by k_asm) (by k_asm) (by assumption) (by decide) (by omega) ?_
      intro D' _ _ h' _ _ _ l1
      k_lt l1
      k_steps
      rename Fr g L' _ _ => lF
      rename News g L' _ _ => lN
      k_dflt (refine item_str_or rfl (by decide) (fun _ h₂ tk₂ e₂ hx' => ?_) (fun _ h => by rw [hv] at h; exact absurd h (by decide)))
      have N₄ : News g L' _ news := fun p hp => lN p (.tail _ (.tail _ (by rw [← hrest]; exact List.mem_append.mpr (.inl hp))))
      refine leave_newS B' hx' lF N₄ ?_
      intro h' S' R' U'
      exact err true e₂ g h' _ (by rw [hsp, firstBad_append, hP1]; rfl) FG S' U'
    · have hvl : v.length ≤ 16 := Nat.le_trans (partMax_short (k := 1) (y := eqS) (by rw [hx]; simp)) hlt
      have fin : ∀ (w' : Str) (o' : Obj) (kvs' : List (Str × Value)) (h' : Heap) (tk' : Nat) (m' : Str → Option Value) (nw : List (Addr × Obj)), (if Txt.item v 0 = qS ∧ Txt.item v (-1) = qS then Txt.slice v (some 1) (some (-1)) else v) = w' → Fr g L' h' m' → News g L' h' (nw ++ (d, o') :: rest) →
          m' (Str.ofString "parsed") = some (.ref d) → (∀ z, z ≠ Str.ofString "elt" → z ≠ Str.ofString "parsed" → z ≠ Str.ofString "k" → z ≠ Str.ofString "v" → m' z = List.lookup z [(Str.ofString "l", Value.ref l)].reverse) →
          o'.IsDictOf (strKind PySem.Challenge.rw_pg0107_01.row.prog w) kvs' → FlatPairs PyData.str kvs' (putD (.str k) (.str w') (pairs (rs.take pre.length))) →
          InvEndG g L' (KdS (σ := Obj × List (Str × Value)) (τ := List Dat) (fun c => [(d, c.1)]) news (fun _ => [(Str.ofString "parsed", Value.ref d)]) (fun _ c => Obj.IsDictOf (strKind PySem.Challenge.rw_pg0107_01.row.prog w) c.1 c.2) (Str.ofString "elt") [Str.ofString "k", Str.ofString "v"]
            (fun y => if y = Str.ofString "parsed" then some (Value.ref d) else List.lookup y [(Str.ofString "l", Value.ref l)].reverse)
            (fun pre c => firstBad (rs.take pre.length) = none ∧ FlatPairs PyData.str c.2 (pairs (rs.take pre.length))) (d :: news.map (·.1)) (pre ++ [Dat.str t])) own { s with heap := h, toks := tk } { s with heap := h', toks := tk' } := by
        intro w' o' kvs' h' tk' m' nw hw' F' N' hm1 hm2 hd' hf'
        refine kd_end (o', kvs') [] hsep F' N' ?_ ?_ rfl (fun _ h => nomatch h) (fun _ h => nomatch h) ?_ ?_ hd' ?_
        · intro p hp
          rw [← hrest]
          simp only [List.mem_append, List.mem_cons, List.not_mem_nil, or_false, List.nil_append] at hp ⊢
          rcases hp with h | h | h
          · exact .inr (.inl h)
          · exact .inr (.inr (.inl h))
          · exact .inr (.inr (.inr (.inl h)))
        · intro p hp
          rw [← hrest]
          simp only [List.mem_append, List.mem_cons]
          exact .inr (.inr (.inr (.inr hp)))
        · intro p hp
          rw [List.mem_singleton.mp hp]; exact hm1
        · intro z h1 h2 h3
          have h4 : z ≠ Str.ofString "parsed" := h2 _ (.head _)
          rw [if_neg h4]
          simp only [List.contains_cons, List.contains_nil, Bool.or_false, Bool.or_eq_false_iff, beq_eq_false_iff_ne] at h3
          exact hm2 z h1 h4 h3.1 h3.2
        · refine ⟨?_, ?_⟩
          · rw [List.length_append, List.length_singleton, htake, firstBad_append, hP1]; rfl
          · rw [List.length_append, List.length_singleton, htake, pairs_snoc]
            simp only [putR]
            rw [hw']; exact hf'
      k_steps
      refine Wait.mk ?_
      refine split_two (by k_asm) (by k_asm) (by assumption) (by decide) (by omega) ?_
      intro D' _ _ h' _ _ _ l1
      k_lt l1
      k_steps
      all_goals (
        refine Wait.mk ?_
        k_dflt (refine' setItem_K PyProof.V.same_str (strKind_is _ _ _ _) ?v ?F ?N ?U ?d ?f ?_ ?z; (case F => k_asm); (case N => k_asm); (case U => k_updF); (case d => k_asm); (case f => k_asm); (case z => assumption); (case v => k_flat))
        intro _ _ _ N' _ _
        (try dsimp only at N')
        k_steps)
      all_goals (
        refine' fin _ _ _ _ _ _ [(_, _)] ?h1 ?F ?N ?hm ?h2 ?d ?f
        (case F => assumption)
        (case hm => rfl)
        (case N => assumption)
        (case d => assumption)
        (case f => assumption)
        (case h2 => (intro z h1 h2 h3 h4; simp [h1, h2, h3, h4]))
        (case h1 => first
          | (rename (Txt.item v 0 == _) = true => q0; rename (Txt.item v (-1) == _) = true => q1; exact if_pos ⟨beq_iff_eq.mp q0, beq_iff_eq.mp q1⟩)
          | (rename (Txt.item v 0 == _) = false => q0; exact if_neg fun x => absurd x.1 (beq_eq_false_iff_ne.mp q0))
          | (rename (Txt.item v (-1) == _) = false => q1; exact if_neg fun x => absurd x.2 (beq_eq_false_iff_ne.mp q1))))
  · intro c tl u h tk hoff hF hP F₁ N₁
    have hrl : rs.take (ts.map Dat.str).length = rs := by
      have h2 : rs.length = ts.length := by simpa using (congrArg List.length hs).symm
      rw [List.length_map, ← h2]; exact List.take_length
    rw [hrl] at hP
    have N₂ : News g L' h ((d, c.1) :: news) := fun p hp => N₁ p (by
      rcases List.mem_cons.mp hp with h | h
      · exact List.mem_append.mpr (.inl (h ▸ .head _))
      · exact List.mem_append.mpr (.inr (List.mem_append.mpr (.inl h))))
    clear N₁ lN lF
    dsimp only [kstB] at F₁
    k_steps
    dsimp only
    k_steps
    refine leaveK_ F₁ N₂ ?_
    intro kF kN
    exact ret d c.1 c.2 _ _ hP.1 kF kN lt2 hF hP.2 hsm
end Mine
end
section
open PySem PySem.W PyProof.Rows PySem.Calls PySem.Spec PyProof.V
set_option Elab.async false
set_option maxRecDepth 100000
set_option maxHeartbeats 8000000
set_option pp.deepTerms false
set_option pp.proofs false
namespace Mine
local macro_rules | `(tactic| k_room) => `(tactic| ktr_room)
local macro_rules | `(tactic| walk_at "call ref") => `(tactic| refine wait_at ?_)
theorem read_spec {w : World} {mean : ExcName → Option Value} {mg mb : Str → Option Value} {dp un : Nat} {gd : Option (List Code)} {cn : Str} {cs : Scope} {a : Addr} {ccd : Value} {cl : List (Str × Addr)} {outer : List Env} {A₀ : Around} {base h₀ : Heap} {L : Addr} {m : Str → Option Value} {news : List (Addr × Obj)} {s : Shared} {Q E : Value → Shared → Prop}
   {l : Addr} {vs : List Value} {n : Nat} {ts : List Str} {rs : List Rd}
   (B : Below A₀ base outer h₀) (F : Fr h₀ L s.heap m) (X : (hd.heap_39 w.params).In h₀) (N : News h₀ L s.heap news) (T : Top hd.view_39 LW mean mg mb h₀) (XB : (hd.heap_39 w.params).In base) (TB : Top hd.view_39 LW mean mg mb base) (D : KtsDicts (outer.filterMap (·.frame)) h₀) (hk : cs.kind = .function)
   (hl : (l, listOf vs.toArray n) ∈ news) (hv : StrsAre vs ts) (hs : ts.map parse1 = rs.map some) (hln : ∀ t ∈ ts, t.length ≤ 16) (htl : ts.length ≤ 8)
   (hdp : dp + 2 < recursionLimit) (hu : un + 16 < cLine)
   (bad : ∀ b kg h' tk' t, firstBad rs = some b → KtsTurn (outer.filterMap (·.frame)) h₀ kg → Fr kg L h' m → News kg L h' news → Below A₀ base outer kg → (hd.heap_39 w.params).In kg → Top hd.view_39 LW mean mg mb kg → KtsDicts (outer.filterMap (·.frame)) kg → Q (.str (Str.ofString (errS b)) t) { s with heap := h', toks := tk' })
   (good : ∀ b c vs' tups h' tk', firstBad rs = none → Fr h₀ L h' m → News h₀ L h' (tups ++ (b, listOf vs'.toArray c) :: news) → (∀ q ∈ news, q.1 < b) → (∀ q ∈ tups, b < q.1) → DatAll tups vs' ((pairs rs).map pairDat) → Q (.ref b) { s with heap := h', toks := tk' }) :
   wpAny (model PySem.Challenge.rw_pg0107_01.row.prog w) (ktrTop dp un gd cn cs L a ccd cl outer) (call (.ref 71) [.ref l]) Q E s := by
  revert X; k_fill; intro X
  k_dflt (refine enter_defS [(Str.ofString "items", .ref l)] B F X N T XB TB D hk (by k_is) (by k_is) (by ktr_room) (BindsTo.of_eq rfl) (by rfl) rfl rfl rfl (by decide) ?_)
  intro g L' h₁ tk FG F' N' B' X' T' D' lt'
  clear F N B X T D
  k_fold
  w_top off
  k_steps
  refine Wait.mk ?_
  k_dflt (refine' parse_spec ?B ?F ?X ?N ?T ?hk ?hl ?hv ?hs ?hln ?htl ?hd ?ret ?err; (case B => k_asm); (case F => k_asm); (case X => k_asm); (case N => k_asm); (case T => k_asm); (case hk => first | rfl | assumption); (case hl => assumption); (case hv => assumption); (case hs => assumption); (case hln => assumption); (case htl => assumption); (case hd => ktr_room); (case' ret => (intro _ _ _ _ _ _ _ _ _ _ _ _)); (case' err => (intro b' _ _ _ _ _ _ R' _; cases b' <;> dsimp only [errS] at R')))
  k_steps
  · rename KtsTurn (List.filterMap (fun x => x.frame) outer) h₀ _ => kT
    refine bad false _ _ _ _ (by assumption) kT ?_ ?_ ?_ ?_ ?_ ?_ <;> assumption
  · rename KtsTurn (List.filterMap (fun x => x.frame) outer) h₀ _ => kT
    refine bad true _ _ _ _ (by assumption) kT ?_ ?_ ?_ ?_ ?_ ?_ <;> assumption
  · rename Fr g L' _ _ => lF
    rename News g L' _ _ => lN
    rename Obj.IsDictOf (strKind _ _) _ _ => hdo
    rename FlatPairs _ _ _ => hfp
    k_dflt (refine kdx_listN (knd := strKind _ _) (enc := PyData.str) rfl lF lN (.head _) (.tail _ (.head _)) hdo ?_ (fun _ _ h => Value.isStrOf_shape h) rfl ?_)
    · have h1 := flatPairs_length hfp
      have h2 := pairs_length rs
      have h3 : rs.length = ts.length := by simpa using (congrArg List.length hs).symm
      omega
    · intro b hb
      refine open_dat [] [] [] hfp (pairs_strs rs) .nil (fun _ h => nomatch h) ?_
      intro vs' tups hda hlt c h' tk' _ F₂ N₂
      have N₃ : News g L' h' (tups ++ (b, listOf vs'.toArray c) :: news) := fun p hp => N₂ p (by
        rcases List.mem_append.mp hp with h | h
        · exact List.mem_append.mpr (.inl h)
        · rcases List.mem_cons.mp h with h | h
          · exact List.mem_append.mpr (.inr (h ▸ .head _))
          · exact List.mem_append.mpr (.inr (.tail _ (.tail _ (.tail _ h)))))
      refine leaveS_l F₂ N₃ ?_
      intro kF kN
      exact good b c vs' tups h' tk' (by assumption) kF kN (fun q hq => hb q (.tail _ (.tail _ hq))) hlt (by simpa using hda)
end Mine
end
section
open PySem PySem.W PyProof.Rows PySem.Calls PySem.Spec PyProof.V
set_option Elab.async false
set_option maxRecDepth 100000
set_option maxHeartbeats 8000000
set_option pp.deepTerms false
set_option pp.proofs false
namespace Mine
local macro_rules | `(tactic| k_room) => `(tactic| ktr_room)
local macro_rules | `(tactic| walk_at "call builtin:len") => `(tactic| (k_here; k_dflt (refine len_at (by k_asm) (by k_mem) (by assumption) ?_; intro t' tk')))
local macro_rules | `(tactic| walk_at "WhlIf") => `(tactic| first | refine WhlIf.yes (decide_eq_true (by assumption)) ?_ | refine WhlIf.no (decide_eq_false (by assumption)) ?_)
local macro_rules | `(tactic| walk_at "exec While Compare cons nil") => `(tactic| (k_here; k_dflt (refine whl_start 0 ?_)))
local macro_rules | `(tactic| walk_at "WhlRest") => `(tactic| refine Wait.out ?_)
local macro_rules | `(tactic| walk_at "subscriptTail Name Name ref int") => `(tactic| (k_here; k_dflt (refine item_at (by k_asm) (by k_mem) (by assumption) (by assumption) (by assumption) ?_)))
section
variable {w : World} {mean : ExcName → Option Value} {mg mb : Str → Option Value} {dp un : Nat} {gd : Option (List Code)} {cn : Str} {cs : Scope} {a : Addr} {ccd : Value} {cl : List (Str × Addr)} {outer : List Env} {A₀ : Around} {base h₀ : Heap} {L : Addr} {m : Str → Option Value} {news : List (Addr × Obj)} {s : Shared} {Q E : Value → Shared → Prop}
   {l : Addr} {vs : List Value} {n : Nat} {xv : Value} {t0 : Tok} {args : List Value}
theorem bl_gen (lt : Nat → Bool) (hbind : BindsTo s (fdAt w 57) ⟨args, []⟩ [(Str.ofString "a", .ref l), (Str.ofString "x", xv), (Str.ofString "lo", .int 0 t0), (Str.ofString "hi", .none), (Str.ofString "key", .none)])
   (B : Below A₀ base outer h₀) (F : Fr h₀ L s.heap m) (X : (hd.heap_39 w.params).In h₀) (N : News h₀ L s.heap news) (T : Top hd.view_39 LW mean mg mb h₀) (hk : cs.kind = .function)
   (hl : (l, listOf vs.toArray n) ∈ news) (hcmp : ∀ i v, vs[i]? = some v → CmpN w news v xv (lt i)) (hlen : vs.length ≤ 64) (hmono : ∀ i j, i ≤ j → lt j = true → lt i = true)
   (hdp : dp < recursionLimit) (hu : un + 80 < cLine)
   (ret : ∀ (r : Nat) t h' tk', r ≤ vs.length → (∀ i, i < r → lt i = true) → (∀ i, r ≤ i → i < vs.length → lt i = false) → Fr h₀ L h' m → News h₀ L h' news → Q (.int r t) { s with heap := h', toks := tk' }) :
   wpAny (model PySem.Challenge.rw_pg0107_01.row.prog w) (ktrTop dp un gd cn cs L a ccd cl outer) (call (.ref 57) args) Q E s := by
  revert X; k_fill; intro X
  k_dflt (refine enter_def [(Str.ofString "a", .ref l), (Str.ofString "x", xv), (Str.ofString "lo", .int 0 t0), (Str.ofString "hi", .none), (Str.ofString "key", .none)] B F X N T hk (by k_is) (by k_is) (by ktr_room) hbind (by rfl) rfl rfl rfl (by decide) ?_)
  intro g L' h₁ tk FG F' N' B' X' T' lt'
  clear F N B X T hbind
  k_fold
  w_top off
  k_steps
  rename Fr g L' _ _ => lF
  rename News g L' _ _ => lN
  refine Wait.mk ?_
  refine while_ind (α := Int × Int) (fun c h => 0 ≤ c.1 ∧ c.1 ≤ c.2 ∧ c.2 ≤ vs.length ∧ (∀ i : Nat, (i : Int) < c.1 → lt i = true) ∧ (∀ i : Nat, c.2 ≤ i → i < vs.length → lt i = false) ∧ (∃ tl th u, Fr g L' h (bisM l xv c.1 c.2 tl th u)) ∧ News g L' h news)
    (fun c => (c.2 - c.1).toNat) (0, (vs.length : Int)) ?_ ?_
  · dsimp only
    refine ⟨by decide, by omega, by omega, fun i h => absurd h (by omega), fun i h1 h2 => absurd h2 (by omega), bisM_of lF rfl rfl fun y h1 h2 h3 => ?_, lN⟩
    rw [if_neg h2]
    have e1 : (y == Str.ofString "lo") = false := beq_eq_false_iff_ne.mpr h1
    have e2 : (y == Str.ofString "hi") = false := beq_eq_false_iff_ne.mpr h2
    simp only [List.reverse_cons, List.reverse_nil, List.nil_append, List.cons_append, List.lookup, e1, e2]
  · rintro ⟨lo, hi⟩ h tk ⟨h0, h1, h2, h3, h4, ⟨tl, th, u, F₁⟩, N₁⟩ IH
    dsimp only at h0 h1 h2 h3 h4 F₁ IH
    clear lF lN
    unfold bisM at F₁
    by_cases hlt : lo < hi
    · obtain ⟨m1, m2⟩ := mid_facts h0 hlt
      have m3 : 0 ≤ (lo + hi).fdiv 2 := by omega
      have m4 : (lo + hi).fdiv 2 < 2 ^ 63 := by omega
      have m5 : ((lo + hi).fdiv 2).toNat < vs.length := by omega
      obtain ⟨v, hv⟩ : ∃ v, vs[((lo + hi).fdiv 2).toNat]? = some v := ⟨_, List.getElem?_eq_getElem m5⟩
      k_dflt (refine whl_turn (by passes_own) ?_)
      k_steps
      rename Fr g L' _ _ => lF
      rename News g L' _ _ => lN
      k_dflt (refine hcmp _ v hv _ _ _ _ _ _ _ lN (fun _ hx => hx) (by ktr_units) ?_)
      k_steps
      · rename lt _ = true => hb
        rename Fr g L' _ _ => lF
        rename News g L' _ _ => lN
        refine Wait.mk (IH ((lo + hi).fdiv 2 + 1, hi) _ _ (by dsimp only; omega) ⟨by dsimp only; omega, by dsimp only; omega, h2, fun i hi => hmono _ _ (by omega) hb, h4, bisM_of lF rfl rfl fun y q1 q2 q3 => ?_, lN⟩)
        simp only [if_neg q1, if_neg q2, if_neg q3]
      · rename lt _ = false => hb
        rename Fr g L' _ _ => lF
        rename News g L' _ _ => lN
        refine Wait.mk (IH (lo, (lo + hi).fdiv 2) _ _ (by dsimp only; omega) ⟨h0, by dsimp only; omega, by dsimp only; omega, h3, fun i hi hn => ?_, bisM_of lF rfl rfl fun y q1 q2 q3 => ?_, lN⟩)
        · cases hq : lt i with
          | false => rfl
          | true => rw [hmono _ i (by omega) hq] at hb; cases hb
        · simp only [if_neg q1, if_neg q2, if_neg q3]
    · k_dflt (refine whl_turn (by passes_own) ?_)
      k_steps
      dsimp only
      refine leaveK_ F₁ N₁ ?_
      intro kF kN
      have e : (lo.toNat : Int) = lo := by omega
      refine e ▸ ret lo.toNat tl h _ (by omega) (fun i hi => h3 i (by omega)) (fun i h5 h6 => h4 i (by omega) h6) kF kN
end
section
variable {w : World} {mean : ExcName → Option Value} {mg mb : Str → Option Value} {dp un : Nat} {gd : Option (List Code)} {cn : Str} {cs : Scope} {a : Addr} {ccd : Value} {cl : List (Str × Addr)} {outer : List Env} {A₀ : Around} {base h₀ : Heap} {L : Addr} {m : Str → Option Value} {news : List (Addr × Obj)} {s : Shared} {Q E : Value → Shared → Prop}
   {l : Addr} {vs : List Value} {n : Nat} {xv : Value} {t0 : Tok} {args : List Value}
theorem br_gen (lt : Nat → Bool) (hbind : BindsTo s (fdAt w 39) ⟨args, []⟩ [(Str.ofString "a", .ref l), (Str.ofString "x", xv), (Str.ofString "lo", .int 0 t0), (Str.ofString "hi", .none), (Str.ofString "key", .none)])
   (B : Below A₀ base outer h₀) (F : Fr h₀ L s.heap m) (X : (hd.heap_39 w.params).In h₀) (N : News h₀ L s.heap news) (T : Top hd.view_39 LW mean mg mb h₀) (hk : cs.kind = .function)
   (hl : (l, listOf vs.toArray n) ∈ news) (hcmp : ∀ i v, vs[i]? = some v → CmpN w news xv v (!lt i)) (hlen : vs.length ≤ 64) (hmono : ∀ i j, i ≤ j → lt j = true → lt i = true)
   (hdp : dp < recursionLimit) (hu : un + 80 < cLine)
   (ret : ∀ (r : Nat) t h' tk', r ≤ vs.length → (∀ i, i < r → lt i = true) → (∀ i, r ≤ i → i < vs.length → lt i = false) → Fr h₀ L h' m → News h₀ L h' news → Q (.int r t) { s with heap := h', toks := tk' }) :
   wpAny (model PySem.Challenge.rw_pg0107_01.row.prog w) (ktrTop dp un gd cn cs L a ccd cl outer) (call (.ref 39) args) Q E s := by
  revert X; k_fill; intro X
  k_dflt (refine enter_def [(Str.ofString "a", .ref l), (Str.ofString "x", xv), (Str.ofString "lo", .int 0 t0), (Str.ofString "hi", .none), (Str.ofString "key", .none)] B F X N T hk (by k_is) (by k_is) (by ktr_room) hbind (by rfl) rfl rfl rfl (by decide) ?_)
  intro g L' h₁ tk FG F' N' B' X' T' lt'
  clear F N B X T hbind
  k_fold
  w_top off
  k_steps
  rename Fr g L' _ _ => lF
  rename News g L' _ _ => lN
  refine Wait.mk ?_
  refine while_ind (α := Int × Int) (fun c h => 0 ≤ c.1 ∧ c.1 ≤ c.2 ∧ c.2 ≤ vs.length ∧ (∀ i : Nat, (i : Int) < c.1 → lt i = true) ∧ (∀ i : Nat, c.2 ≤ i → i < vs.length → lt i = false) ∧ (∃ tl th u, Fr g L' h (bisM l xv c.1 c.2 tl th u)) ∧ News g L' h news)
    (fun c => (c.2 - c.1).toNat) (0, (vs.length : Int)) ?_ ?_
  · dsimp only
    refine ⟨by decide, by omega, by omega, fun i h => absurd h (by omega), fun i h1 h2 => absurd h2 (by omega), bisM_of lF rfl rfl fun y h1 h2 h3 => ?_, lN⟩
    rw [if_neg h2]
    have e1 : (y == Str.ofString "lo") = false := beq_eq_false_iff_ne.mpr h1
    have e2 : (y == Str.ofString "hi") = false := beq_eq_false_iff_ne.mpr h2
    simp only [List.reverse_cons, List.reverse_nil, List.nil_append, List.cons_append, List.lookup, e1, e2]
  · rintro ⟨lo, hi⟩ h tk ⟨h0, h1, h2, h3, h4, ⟨tl, th, u, F₁⟩, N₁⟩ IH
    dsimp only at h0 h1 h2 h3 h4 F₁ IH
    clear lF lN
    unfold bisM at F₁
    by_cases hlt : lo < hi
    · obtain ⟨m1, m2⟩ := mid_facts h0 hlt
      have m3 : 0 ≤ (lo + hi).fdiv 2 := by omega
      have m4 : (lo + hi).fdiv 2 < 2 ^ 63 := by omega
      have m5 : ((lo + hi).fdiv 2).toNat < vs.length := by omega
      obtain ⟨v, hv⟩ : ∃ v, vs[((lo + hi).fdiv 2).toNat]? = some v := ⟨_, List.getElem?_eq_getElem m5⟩
      k_dflt (refine whl_turn (by passes_own) ?_)
      k_steps
      rename Fr g L' _ _ => lF
      rename News g L' _ _ => lN
      k_dflt (refine hcmp _ v hv _ _ _ _ _ _ _ lN (fun _ hx => hx) (by ktr_units) ?_)
      k_steps
      · rename lt _ = true => hb
        rename Fr g L' _ _ => lF
        rename News g L' _ _ => lN
        refine Wait.mk (IH ((lo + hi).fdiv 2 + 1, hi) _ _ (by dsimp only; omega) ⟨by dsimp only; omega, by dsimp only; omega, h2, fun i hi => hmono _ _ (by omega) hb, h4, bisM_of lF rfl rfl fun y q1 q2 q3 => ?_, lN⟩)
        simp only [if_neg q1, if_neg q2, if_neg q3]
      · rename lt _ = false => hb
        rename Fr g L' _ _ => lF
        rename News g L' _ _ => lN
        refine Wait.mk (IH (lo, (lo + hi).fdiv 2) _ _ (by dsimp only; omega) ⟨h0, by dsimp only; omega, by dsimp only; omega, h3, fun i hi hn => ?_, bisM_of lF rfl rfl fun y q1 q2 q3 => ?_, lN⟩)
        · cases hq : lt i with
          | false => rfl
          | true => rw [hmono _ i (by omega) hq] at hb; cases hb
        · simp only [if_neg q1, if_neg q2, if_neg q3]
    · k_dflt (refine whl_turn (by passes_own) ?_)
      k_steps
      dsimp only
      refine leaveK_ F₁ N₁ ?_
      intro kF kN
      have e : (lo.toNat : Int) = lo := by omega
      refine e ▸ ret lo.toNat tl h _ (by omega) (fun i hi => h3 i (by omega)) (fun i h5 h6 => h4 i (by omega) h6) kF kN
end
end Mine
end
section
open PySem PySem.W PyProof.Rows PySem.Calls PySem.Spec PyProof.V
set_option Elab.async false
set_option maxRecDepth 100000
set_option maxHeartbeats 8000000
set_option pp.deepTerms false
set_option pp.proofs false
namespace Mine
section
variable {w : World} {mean : ExcName → Option Value} {mg mb : Str → Option Value} {dp un : Nat} {gd : Option (List Code)} {cn : Str} {cs : Scope} {a : Addr} {ccd : Value} {cl : List (Str × Addr)} {outer : List Env} {A₀ : Around} {base h₀ : Heap} {L : Addr} {m : Str → Option Value} {news : List (Addr × Obj)} {s : Shared} {Q E : Value → Shared → Prop}
   {l : Addr} {vs : List Value} {n : Nat} {xv : Value} {t0 : Tok} {args : List Value}
theorem bl_two {h₀ : Heap} {X : (hd.heap_39 w.params).In h₀} (F : Fr h₀ L s.heap m) : BindsTo s (fdAt w 57) ⟨[.ref l, xv], []⟩ [(Str.ofString "a", .ref l), (Str.ofString "x", xv), (Str.ofString "lo", .int 0 242), (Str.ofString "hi", .none), (Str.ofString "key", .none)] :=
  kp_binds (X.keeps F.keep) (fun _ => by kernel_rfl)
theorem bl_four {h₀ : Heap} {X : (hd.heap_39 w.params).In h₀} (F : Fr h₀ L s.heap m) : BindsTo s (fdAt w 57) ⟨[.ref l, xv, .int 0 t0, .none], []⟩ [(Str.ofString "a", .ref l), (Str.ofString "x", xv), (Str.ofString "lo", .int 0 t0), (Str.ofString "hi", .none), (Str.ofString "key", .none)] :=
  kp_binds (X.keeps F.keep) (fun _ => by kernel_rfl)
theorem br_four {h₀ : Heap} {X : (hd.heap_39 w.params).In h₀} (F : Fr h₀ L s.heap m) : BindsTo s (fdAt w 39) ⟨[.ref l, xv, .int 0 t0, .none], []⟩ [(Str.ofString "a", .ref l), (Str.ofString "x", xv), (Str.ofString "lo", .int 0 t0), (Str.ofString "hi", .none), (Str.ofString "key", .none)] :=
  kp_binds (X.keeps F.keep) (fun _ => by kernel_rfl)
end
end Mine
end
section
open PySem PySem.W PyProof.Rows PySem.Calls PySem.Spec PyProof.V
set_option Elab.async false
set_option maxRecDepth 100000
set_option maxHeartbeats 8000000
set_option pp.deepTerms false
set_option pp.proofs false
namespace Mine
open PySem.MeetsSeq PySem.MeetsSeq3
/-- one row before another: by key, then by place -/
def rowLt (a b : Str × Int) : Bool := if a.1 = b.1 then decide (a.2 < b.2) else decide (a.1.cps.toList < b.1.cps.toList)
abbrev rowObj (k : Str) (p : Int) (t u : Tok) (n : Nat) : Obj := listOf #[.str k t, .int p u] n
section
variable {l b : Addr} {k1 k2 : Str} {p1 p2 : Int} {t1 u1 t2 u2 : Tok} {n1 n2 : Nat} {xs ys : Array Value}
abbrev lstObj (xs : Array Value) (n : Nat) : Obj := { cls := .type "list", data := .seq xs n }
theorem lt_loop2 (hx : xs.size = 2) (hy : ys.size = 2) : Meets (Builtin.«list.__eq__.loop» ⟨[.ref l, .ref b, rawInt (2 : Nat), rawInt 0], []⟩)
    (fun A R s => s.heap.get? l = some (lstObj xs n1) ∧ s.heap.get? b = some (lstObj ys n2) ∧ R (.ok (.ret (.bool false))) s) := by
  intro prog w A R s h
  obtain ⟨hp, g, d, tk, os⟩ := s; obtain ⟨hl, hb, h⟩ := h
  wp_walk using wpAny_loadPart' hl, wpAny_loadPart' hb
  have hi1 : xs[((2 : Nat) : Int).toNat]? = none := by simp [hx]
  have hi2 : ys[((2 : Nat) : Int).toNat]? = none := by simp [hy]
  rw [hi1, hi2]
  wp_walk using wpAny_loadPart' hl, wpAny_loadPart' hb
  show R (.ok (.ret (.bool (decide (xs.size < ys.size))))) _
  rw [hx, hy]
  exact h
theorem lt_loop1 (hx : xs.size = 2) (hy : ys.size = 2) (h1 : xs[1]? = some (.int p1 u1)) (h2 : ys[1]? = some (.int p2 u2)) : Meets (Builtin.«list.__eq__.loop» ⟨[.ref l, .ref b, rawInt (1 : Nat), rawInt 0], []⟩)
    (fun A R s => s.heap.get? l = some (lstObj xs n1) ∧ s.heap.get? b = some (lstObj ys n2) ∧ R (.ok (.ret (.bool (decide (p1 < p2))))) s) := by
  intro prog w A R s h
  obtain ⟨hp, g, d, tk, os⟩ := s; obtain ⟨hl, hb, h⟩ := h
  wp_walk using wpAny_loadPart' hl, wpAny_loadPart' hb
  have hi1 : xs[((1 : Nat) : Int).toNat]? = some (.int p1 u1) := h1
  have hi2 : ys[((1 : Nat) : Int).toNat]? = some (.int p2 u2) := h2
  rw [hi1, hi2]
  refine wpAny_bind (wpAny_eqBool_int ?_)
  by_cases e : p1 = p2
  · have e' : (p1 == p2) = true := by simp [e]
    rw [e']
    have e2 : decide (p1 < p2) = false := by simp [e]
    rw [e2] at h
    wp_walk
    exact ⟨plainId_quiet plain_eq_loop _, codeAny_builtin entry_eq_loop (by
      rw [Around.under_plainId plain_eq_loop _]
      exact lt_loop2 hx hy prog w A R _ ⟨hl, hb, h⟩)⟩
  · have e' : (p1 == p2) = false := by simp [e]
    rw [e']
    wp_walk using wpAny_loadPart' hl, wpAny_loadPart' hb
    rw [hi1, hi2]
    refine wpAny_bind (PyProof.Rows.lt_int ?_)
    wp_walk
    exact h
theorem lt_loop0 (hx : xs.size = 2) (hy : ys.size = 2) (g1 : xs[0]? = some (.str k1 t1)) (g2 : ys[0]? = some (.str k2 t2)) (h1 : xs[1]? = some (.int p1 u1)) (h2 : ys[1]? = some (.int p2 u2)) : Meets (Builtin.«list.__eq__.loop» ⟨[.ref l, .ref b, rawInt (0 : Nat), rawInt 0], []⟩)
    (fun A R s => s.heap.get? l = some (lstObj xs n1) ∧ s.heap.get? b = some (lstObj ys n2) ∧ R (.ok (.ret (.bool (rowLt (k1, p1) (k2, p2))))) s) := by
  intro prog w A R s h
  obtain ⟨hp, g, d, tk, os⟩ := s; obtain ⟨hl, hb, h⟩ := h
  wp_walk using wpAny_loadPart' hl, wpAny_loadPart' hb
  have hi1 : xs[((0 : Nat) : Int).toNat]? = some (.str k1 t1) := g1
  have hi2 : ys[((0 : Nat) : Int).toNat]? = some (.str k2 t2) := g2
  rw [hi1, hi2]
  refine wpAny_bind (eqBool_str ?_)
  by_cases e : k1 = k2
  · have e' : (k1 == k2) = true := by simp [e]
    rw [e']
    unfold rowLt at h
    rw [if_pos e] at h
    wp_walk
    exact ⟨plainId_quiet plain_eq_loop _, codeAny_builtin entry_eq_loop (by
      rw [Around.under_plainId plain_eq_loop _]
      exact lt_loop1 hx hy h1 h2 prog w A R _ ⟨hl, hb, h⟩)⟩
  · have e' : (k1 == k2) = false := by simp [e]
    rw [e']
    wp_walk using wpAny_loadPart' hl, wpAny_loadPart' hb
    rw [hi1, hi2]
    refine wpAny_bind (PyProof.Rows.lt_str ?_)
    wp_walk
    unfold rowLt at h
    rw [if_neg e] at h
    exact h
theorem list_lt (hx : xs.size = 2) (hy : ys.size = 2) (g1 : xs[0]? = some (.str k1 t1)) (g2 : ys[0]? = some (.str k2 t2)) (h1 : xs[1]? = some (.int p1 u1)) (h2 : ys[1]? = some (.int p2 u2)) : Meets (Builtin.«list.__lt__» ⟨[.ref l, .ref b], []⟩)
    (fun A R s => s.heap.get? l = some (lstObj xs n1) ∧ s.heap.get? b = some (lstObj ys n2) ∧ R (.ok (.ret (.bool (rowLt (k1, p1) (k2, p2))))) s) := by
  intro prog w A R s h
  obtain ⟨hp, g, d, tk, os⟩ := s; obtain ⟨hl, hb, h⟩ := h
  have f3 := AutoSeq1.sub_list_list
  wp_walk using wpAny_loadPart' hl, wpAny_loadPart' hb
  exact ⟨plainId_quiet plain_eq_loop _, codeAny_builtin entry_eq_loop (by
    rw [Around.under_plainId plain_eq_loop _]
    exact lt_loop0 hx hy g1 g2 h1 h2 prog w A R _ ⟨hl, hb, h⟩)⟩
end
theorem cmp_rows {w : World} {news : List (Addr × Obj)} {a b : Addr} {k1 k2 : Str} {p1 p2 : Int} {t1 u1 t2 u2 : Tok} {n1 n2 : Nat} (ha : (a, rowObj k1 p1 t1 u1 n1) ∈ news) (hb : (b, rowObj k2 p2 t2 u2 n2) ∈ news) : CmpN w news (.ref a) (.ref b) (rowLt (k1, p1) (k2, p2)) := by
  intro A Q E s h₀ L nw N hs hu h
  have ga : s.heap.get? a = some (lstObj #[.str k1 t1, .int p1 u1] n1) := (N _ (hs _ ha)).1
  have gb : s.heap.get? b = some (lstObj #[.str k2 t2, .int p2 u2] n2) := (N _ (hs _ hb)).1
  have Ta : s.TypeIs (.ref a) "list" := ⟨_, ga, rfl⟩
  have Tb : s.TypeIs (.ref b) "list" := ⟨_, gb, rfl⟩
  refine cmp_ofLt (wpAny_richCompare_same_room Ta Tb F.slot_list_lt ?_ (by omega))
  refine call_meets F.slot_list_lt Ta F.entry_list_lt (F.args_list_lt_2 _ _) (list_lt (xs := #[.str k1 t1, .int p1 u1]) (ys := #[.str k2 t2, .int p2 u2]) rfl rfl rfl rfl rfl rfl) ⟨ga, gb, ?_⟩
  exact ⟨by simp, h⟩
theorem cmp_ints {w : World} {news : List (Addr × Obj)} {x y : Int} {t u : Tok} : CmpN w news (.int x t) (.int y u) (decide (x < y)) :=
  fun _ _ _ _ _ _ _ _ _ _ h => PyProof.Rows.lt_int h
end Mine
end
section
open PySem PySem.W PyProof.Rows PySem.Calls PySem.Spec PyProof.V
set_option Elab.async false
set_option maxRecDepth 100000
set_option maxHeartbeats 8000000
namespace Mine
def rk (k : Str) : Int := if k = Str.ofString "" then 0 else if k = Str.ofString "k" then 1 else 2
def code (r : Str × Int) : Int := 16 * rk r.1 + r.2
def RowOk (r : Str × Int) : Prop := r.1 ∈ keysL ∧ -1 ≤ r.2 ∧ r.2 ≤ 5
theorem keys_cases {k : Str} (h : k ∈ keysL) : k = Str.ofString "k" ∨ k = Str.ofString "l" ∨ k = Str.ofString "" := by
  simpa [keysL] using h
theorem rowLt_code {a b : Str × Int} (ha : RowOk a) (hb : RowOk b) : rowLt a b = decide (code a < code b) := by
  obtain ⟨k, p⟩ := a
  obtain ⟨k', q⟩ := b
  obtain ⟨h1, h2, h3⟩ := ha
  obtain ⟨g1, g2, g3⟩ := hb
  dsimp only at h1 h2 h3 g1 g2 g3
  have e : ∀ x ∈ keysL, ∀ y ∈ keysL, (x ≠ y → decide (x.cps.toList < y.cps.toList) = decide (rk x < rk y)) ∧ (rk x = rk y → x = y) ∧ 0 ≤ rk x := by decide +kernel
  obtain ⟨e1, e2, e3⟩ := e k h1 k' g1
  unfold rowLt code
  by_cases hk : k = k'
  · subst hk
    rw [if_pos rfl]
    simp only [decide_eq_decide]
    omega
  · rw [if_neg hk, e1 hk]
    simp only [decide_eq_decide]
    have : rk k ≠ rk k' := fun h => hk (e2 h)
    omega
theorem code_inj {a b : Str × Int} (ha : RowOk a) (hb : RowOk b) (h : code a = code b) : a = b := by
  obtain ⟨k, p⟩ := a
  obtain ⟨k', q⟩ := b
  obtain ⟨h1, h2, h3⟩ := ha
  obtain ⟨g1, g2, g3⟩ := hb
  dsimp only at h1 h2 h3 g1 g2 g3
  have e : ∀ x ∈ keysL, ∀ y ∈ keysL, (rk x = rk y → x = y) ∧ 0 ≤ rk x := by decide +kernel
  obtain ⟨e2, e3⟩ := e k h1 k' g1
  unfold code at h
  dsimp only at h
  have h4 : rk k = rk k' := by omega
  have h5 : p = q := by omega
  rw [e2 h4, h5]
/-- sorted lists of ints, a place told by bisect -/
def ltAt (cs : List Int) (x : Int) (i : Nat) : Bool := match cs[i]? with | some c => decide (c < x) | none => false
def leAt (cs : List Int) (x : Int) (i : Nat) : Bool := match cs[i]? with | some c => decide (c ≤ x) | none => false
abbrev Sorted (cs : List Int) : Prop := cs.Pairwise (· < ·)
theorem sorted_get {cs : List Int} (h : Sorted cs) {i j : Nat} {a b : Int} (hi : cs[i]? = some a) (hj : cs[j]? = some b) (hij : i < j) : a < b := by
  obtain ⟨h1, h2⟩ := List.getElem?_eq_some_iff.mp hi
  obtain ⟨h3, h4⟩ := List.getElem?_eq_some_iff.mp hj
  rw [← h2, ← h4]
  exact List.pairwise_iff_getElem.mp h i j h1 h3 hij
theorem ltAt_mono {cs : List Int} (h : Sorted cs) (x : Int) : ∀ i j, i ≤ j → ltAt cs x j = true → ltAt cs x i = true := by
  intro i j hij hj
  unfold ltAt at hj ⊢
  cases h1 : cs[j]? with
  | none => rw [h1] at hj; cases hj
  | some b =>
    rw [h1] at hj
    have hb : b < x := of_decide_eq_true hj
    have hlt : i < cs.length := Nat.lt_of_le_of_lt hij (List.getElem?_eq_some_iff.mp h1).1
    rw [List.getElem?_eq_getElem hlt]
    rcases Nat.lt_or_eq_of_le hij with h2 | h2
    · have := sorted_get h (List.getElem?_eq_getElem hlt) h1 h2
      exact decide_eq_true (by omega)
    · subst h2
      rw [List.getElem?_eq_getElem hlt] at h1
      rw [Option.some.inj h1]; exact decide_eq_true hb
theorem leAt_mono {cs : List Int} (h : Sorted cs) (x : Int) : ∀ i j, i ≤ j → leAt cs x j = true → leAt cs x i = true := by
  intro i j hij hj
  unfold leAt at hj ⊢
  cases h1 : cs[j]? with
  | none => rw [h1] at hj; cases hj
  | some b =>
    rw [h1] at hj
    have hb : b ≤ x := of_decide_eq_true hj
    have hlt : i < cs.length := Nat.lt_of_le_of_lt hij (List.getElem?_eq_some_iff.mp h1).1
    rw [List.getElem?_eq_getElem hlt]
    rcases Nat.lt_or_eq_of_le hij with h2 | h2
    · have := sorted_get h (List.getElem?_eq_getElem hlt) h1 h2
      exact decide_eq_true (by omega)
    · subst h2
      rw [List.getElem?_eq_getElem hlt] at h1
      rw [Option.some.inj h1]; exact decide_eq_true hb
/-- where bisect_left stands -/
structure LeftAt (cs : List Int) (x : Int) (r : Nat) : Prop where
  le : r ≤ cs.length
  low : ∀ i c, i < r → cs[i]? = some c → c < x
  high : ∀ i c, r ≤ i → cs[i]? = some c → x ≤ c
theorem LeftAt.of {cs : List Int} {x : Int} {r : Nat} (h0 : r ≤ cs.length) (h1 : ∀ i, i < r → ltAt cs x i = true) (h2 : ∀ i, r ≤ i → i < cs.length → ltAt cs x i = false) : LeftAt cs x r := by
  refine ⟨h0, fun i c hi hc => ?_, fun i c hi hc => ?_⟩
  · have := h1 i hi
    unfold ltAt at this
    rw [hc] at this
    exact of_decide_eq_true this
  · have := h2 i hi (List.getElem?_eq_some_iff.mp hc).1
    unfold ltAt at this
    rw [hc] at this
    have := of_decide_eq_false this
    omega
structure RightAt (cs : List Int) (x : Int) (r : Nat) : Prop where
  le : r ≤ cs.length
  low : ∀ i c, i < r → cs[i]? = some c → c ≤ x
  high : ∀ i c, r ≤ i → cs[i]? = some c → x < c
theorem RightAt.of {cs : List Int} {x : Int} {r : Nat} (h0 : r ≤ cs.length) (h1 : ∀ i, i < r → leAt cs x i = true) (h2 : ∀ i, r ≤ i → i < cs.length → leAt cs x i = false) : RightAt cs x r := by
  refine ⟨h0, fun i c hi hc => ?_, fun i c hi hc => ?_⟩
  · have := h1 i hi
    unfold leAt at this
    rw [hc] at this
    exact of_decide_eq_true this
  · have := h2 i hi (List.getElem?_eq_some_iff.mp hc).1
    unfold leAt at this
    rw [hc] at this
    have := of_decide_eq_false this
    omega
theorem mem_take_get {cs : List Int} {r : Nat} {c : Int} (h : c ∈ cs.take r) : ∃ i, i < r ∧ cs[i]? = some c := by
  obtain ⟨i, hi⟩ := List.mem_iff_getElem?.mp h
  rw [List.getElem?_take] at hi
  split at hi
  · exact ⟨i, by assumption, hi⟩
  · cases hi
theorem mem_drop_get {cs : List Int} {r : Nat} {c : Int} (h : c ∈ cs.drop r) : ∃ i, r ≤ i ∧ cs[i]? = some c := by
  obtain ⟨i, hi⟩ := List.mem_iff_getElem?.mp h
  rw [List.getElem?_drop] at hi
  exact ⟨r + i, by omega, hi⟩
/-- a new one laid in -/
theorem ins_sorted {cs : List Int} {x : Int} {r : Nat} (hs : Sorted cs) (low : ∀ i c, i < r → cs[i]? = some c → c < x) (high : ∀ i c, r ≤ i → cs[i]? = some c → x < c) : Sorted (cs.take r ++ x :: cs.drop r) := by
  refine List.pairwise_append.mpr ⟨hs.sublist (List.take_sublist ..), List.pairwise_cons.mpr ⟨fun c hc => ?_, hs.sublist (List.drop_sublist ..)⟩, fun a ha b hb => ?_⟩
  · obtain ⟨i, h1, h2⟩ := mem_drop_get hc
    exact high i c h1 h2
  · obtain ⟨i, h1, h2⟩ := mem_take_get ha
    rcases List.mem_cons.mp hb with rfl | hb
    · exact low i a h1 h2
    · obtain ⟨j, h3, h4⟩ := mem_drop_get hb
      exact sorted_get hs h2 h4 (by omega)
theorem mem_ins {α : Type} {cs : List α} {x y : α} {r : Nat} : y ∈ cs.take r ++ x :: cs.drop r ↔ y = x ∨ y ∈ cs := by
  have h : y ∈ cs ↔ y ∈ cs.take r ∨ y ∈ cs.drop r := by
    conv => lhs; rw [← List.take_append_drop r cs]
    exact List.mem_append
  rw [h, List.mem_append, List.mem_cons]
  constructor
  · rintro (h | h | h)
    · exact .inr (.inl h)
    · exact .inl h
    · exact .inr (.inr h)
  · rintro (h | h | h)
    · exact .inr (.inl h)
    · exact .inl h
    · exact .inr (.inr h)
/-- an old one taken out -/
theorem left_hit {cs : List Int} {x : Int} {r : Nat} (hs : Sorted cs) (hl : LeftAt cs x r) (hx : x ∈ cs) : cs[r]? = some x := by
  obtain ⟨j, hj⟩ := List.mem_iff_getElem?.mp hx
  have h1 : ¬ j < r := fun h => by have := hl.low j x h hj; omega
  rcases Nat.lt_or_eq_of_le (Nat.le_of_not_lt h1) with h2 | h2
  · have hr : r < cs.length := Nat.lt_trans h2 (List.getElem?_eq_some_iff.mp hj).1
    have h3 := sorted_get hs (List.getElem?_eq_getElem hr) hj h2
    have h4 := hl.high r _ (Nat.le_refl _) (List.getElem?_eq_getElem hr)
    omega
  · rw [h2]; exact hj
theorem del_sorted {cs : List Int} {r : Nat} (hs : Sorted cs) : Sorted (cs.take r ++ cs.drop (r + 1)) := by
  refine List.pairwise_append.mpr ⟨hs.sublist (List.take_sublist ..), hs.sublist (List.drop_sublist ..), fun a ha b hb => ?_⟩
  obtain ⟨i, h1, h2⟩ := mem_take_get ha
  obtain ⟨j, h3, h4⟩ := mem_drop_get hb
  exact sorted_get hs h2 h4 (by omega)
theorem mem_del {cs : List Int} {x y : Int} {r : Nat} (hs : Sorted cs) (hr : cs[r]? = some x) : y ∈ cs.take r ++ cs.drop (r + 1) ↔ y ∈ cs ∧ y ≠ x := by
  constructor
  · intro h
    rcases List.mem_append.mp h with h | h
    · obtain ⟨i, h1, h2⟩ := mem_take_get h
      have := sorted_get hs h2 hr h1
      exact ⟨List.mem_of_getElem? h2, by omega⟩
    · obtain ⟨i, h1, h2⟩ := mem_drop_get h
      have := sorted_get hs hr h2 (by omega)
      exact ⟨List.mem_of_getElem? h2, by omega⟩
  · rintro ⟨h, hne⟩
    obtain ⟨j, hj⟩ := List.mem_iff_getElem?.mp h
    rcases Nat.lt_trichotomy j r with h1 | h1 | h1
    · refine List.mem_append.mpr (.inl (List.mem_iff_getElem?.mpr ⟨j, ?_⟩))
      rw [List.getElem?_take, if_pos h1]; exact hj
    · rw [h1, hr] at hj
      exact absurd (Option.some.inj hj).symm hne
    · refine List.mem_append.mpr (.inr (List.mem_iff_getElem?.mpr ⟨j - (r + 1), ?_⟩))
      rw [List.getElem?_drop, show r + 1 + (j - (r + 1)) = j by omega]; exact hj
/-- two sorted lists of the same members are the same -/
theorem sorted_ext : ∀ {a b : List Int}, Sorted a → Sorted b → (∀ x, x ∈ a ↔ x ∈ b) → a = b
  | [], [], _, _, _ => rfl
  | [], y :: b, _, _, h => by have := (h y).mpr (.head _); cases this
  | x :: a, [], _, _, h => by have := (h x).mp (.head _); cases this
  | x :: a, y :: b, ha, hb, h => by
    obtain ⟨a1, a2⟩ := List.pairwise_cons.mp ha
    obtain ⟨b1, b2⟩ := List.pairwise_cons.mp hb
    have e : x = y := by
      rcases List.mem_cons.mp ((h x).mp (.head _)) with e | e
      · exact e
      · rcases List.mem_cons.mp ((h y).mpr (.head _)) with e' | e'
        · exact e'.symm
        · have := a1 y e'; have := b1 x e; omega
    subst e
    refine congrArg _ (sorted_ext a2 b2 fun z => ⟨fun hz => ?_, fun hz => ?_⟩)
    · rcases List.mem_cons.mp ((h z).mp (.tail _ hz)) with e | e
      · have := a1 z hz; omega
      · exact e
    · rcases List.mem_cons.mp ((h z).mpr (.tail _ hz)) with e | e
      · have := b1 z hz; omega
      · exact e
end Mine
end
section
open PySem PySem.W PyProof.Rows PySem.Calls PySem.Spec PyProof.V
set_option Elab.async false
set_option maxRecDepth 100000
set_option maxHeartbeats 8000000
set_option pp.deepTerms false
set_option pp.proofs false
namespace Mine
section
variable {prog : Program} {w : World} {A : Around} {E : Value → Shared → Prop} {s : Shared} {h₀ : Heap} {L : Addr} {m : Str → Option Value} {l : Addr} {vs : List Value} {n r : Nat} {rest : List (Addr × Obj)} {u : Tok} {y : Value} {Q : Value → Shared → Prop}
theorem ins_at (F : Fr h₀ L s.heap m) (N : News h₀ L s.heap ((l, listOf vs.toArray n) :: rest)) (hne : ∀ p ∈ rest, p.1 ≠ l) (hr : r ≤ vs.length) (hv : vs.length ≤ 64)
    (h : ∀ h', Fr h₀ L h' m → News h₀ L h' ((l, listOf (vs.take r ++ y :: vs.drop r).toArray (n + 1)) :: rest) → Q .none { s with heap := h' }) :
    wpAny (model prog w) A (call (.builtin "list.insert") [.ref l, .int r u, y]) Q E s := by
  refine kl_insert F N ?_ ?_ (.head hne) (by rw [sizeLine_eq]; simp; omega) h
  · simp only [Builtin.List.listFitsIndex, Bool.and_eq_true, decide_eq_true_eq]; omega
  · unfold kl_ins
    rw [if_neg (by omega)]
    simp only [Int.toNat_natCast, Nat.min_eq_left hr]
theorem cut_at : ∀ (l : List Value) (k : Nat) (y : Value), l[k]? = some y → kl_cut l k = some (l.take k, y, l.drop (k + 1))
  | [], _, _, h => by simp at h
  | x :: l, 0, y, h => by
    simp only [List.getElem?_cons_zero, Option.some.injEq] at h
    subst h
    simp [kl_cut]
  | x :: l, k + 1, y, h => by
    have := cut_at l k y (by simpa using h)
    simp [kl_cut, this]
theorem pop_at (F : Fr h₀ L s.heap m) (N : News h₀ L s.heap ((l, listOf vs.toArray n) :: rest)) (hne : ∀ p ∈ rest, p.1 ≠ l) (hr : vs[r]? = some y) (hv : vs.length ≤ 64)
    (h : ∀ h', Fr h₀ L h' m → News h₀ L h' ((l, listOf (vs.take r ++ vs.drop (r + 1)).toArray (n + 1)) :: rest) → Q y { s with heap := h' }) :
    wpAny (model prog w) A (call (.builtin "list.pop") [.ref l, .int r u]) Q E s := by
  obtain ⟨hlt, hy⟩ := List.getElem?_eq_some_iff.mp hr
  refine kl_popAt (k := r) (p := vs.take r) (q := vs.drop (r + 1)) (y := y) F N ?_ ?_ ?_ (.head hne) (by rw [sizeLine_eq]; simp; omega) h
  · simp only [Builtin.List.listFitsIndex, Bool.and_eq_true, decide_eq_true_eq]; omega
  · unfold seqIndex?
    simp only [List.size_toArray]
    split <;> first | (simp; done) | (simp; omega) | omega
  · exact cut_at vs r y hr
end
local macro_rules | `(tactic| k_room) => `(tactic| ktr_room)
local macro_rules | `(tactic| walk_at "call ref") => `(tactic| refine wait_at ?_)
local macro_rules | `(tactic| walk_at "call builtin:list.insert") => `(tactic| (k_here; k_dflt (refine ins_at (by k_asm) (by k_asm) (by assumption) (by assumption) (by assumption) ?_; intro h' F' N')))
section
variable {w : World} {mean : ExcName → Option Value} {mg mb : Str → Option Value} {dp un : Nat} {gd : Option (List Code)} {cn : Str} {cs : Scope} {a : Addr} {ccd : Value} {cl : List (Str × Addr)} {outer : List Env} {A₀ : Around} {base h₀ : Heap} {L : Addr} {m : Str → Option Value} {rest : List (Addr × Obj)} {s : Shared} {Q E : Value → Shared → Prop}
   {l : Addr} {vs : List Value} {n : Nat} {xv : Value}
theorem il_spec (lt : Nat → Bool)
   (B : Below A₀ base outer h₀) (F : Fr h₀ L s.heap m) (X : (hd.heap_39 w.params).In h₀) (N : News h₀ L s.heap ((l, listOf vs.toArray n) :: rest)) (T : Top hd.view_39 LW mean mg mb h₀) (hk : cs.kind = .function)
   (hne : ∀ p ∈ rest, p.1 ≠ l) (hcmp : ∀ i v, vs[i]? = some v → CmpN w ((l, listOf vs.toArray n) :: rest) v xv (lt i)) (hlen : vs.length ≤ 64) (hmono : ∀ i j, i ≤ j → lt j = true → lt i = true)
   (hdp : dp + 1 < recursionLimit) (hu : un + 90 < cLine)
   (ret : ∀ (r : Nat) h' tk', r ≤ vs.length → (∀ i, i < r → lt i = true) → (∀ i, r ≤ i → i < vs.length → lt i = false) → Fr h₀ L h' m → News h₀ L h' ((l, listOf (vs.take r ++ xv :: vs.drop r).toArray (n + 1)) :: rest) → Q .none { s with heap := h', toks := tk' }) :
   wpAny (model PySem.Challenge.rw_pg0107_01.row.prog w) (ktrTop dp un gd cn cs L a ccd cl outer) (call (.ref 48) [.ref l, xv]) Q E s := by
  revert X; k_fill; intro X
  k_dflt (refine enter_def [(Str.ofString "a", .ref l), (Str.ofString "x", xv), (Str.ofString "lo", .int 0 229), (Str.ofString "hi", .none), (Str.ofString "key", .none)] B F X N T hk (by k_is) (by k_is) (by ktr_room) (kp_binds (by k_in) (fun _ => rfl)) (by rfl) rfl rfl rfl (by decide) ?_)
  intro g L' h₁ tk FG F' N' B' X' T' lt'
  clear F N B X T
  k_fold
  w_top off
  k_steps
  refine Wait.mk ?_
  k_dflt (refine' bl_gen _ (bl_four (X := ?X) ?F) ?B ?F ?X ?N ?T ?hk ?hl ?hcmp ?hlen ?hmono ?hdp ?hu ?ret; (case F => k_asm); (case B => k_asm); (case X => k_asm); (case N => k_asm); (case T => k_asm); (case hk => first | rfl | assumption); (case hl => k_mem); (case hcmp => assumption); (case hlen => assumption); (case hmono => assumption); (case hdp => ktr_room); (case hu => ktr_units); (case' ret => (intro _ _ _ _ _ _ _ _ _)))
  k_steps
  rename Fr g L' _ _ => lF
  rename News g L' _ _ => lN
  refine leaveK_ lF lN ?_
  intro kF kN
  exact ret _ _ _ (by assumption) (by assumption) (by assumption) kF kN
theorem ir_spec (lt : Nat → Bool)
   (B : Below A₀ base outer h₀) (F : Fr h₀ L s.heap m) (X : (hd.heap_39 w.params).In h₀) (N : News h₀ L s.heap ((l, listOf vs.toArray n) :: rest)) (T : Top hd.view_39 LW mean mg mb h₀) (hk : cs.kind = .function)
   (hne : ∀ p ∈ rest, p.1 ≠ l) (hcmp : ∀ i v, vs[i]? = some v → CmpN w ((l, listOf vs.toArray n) :: rest) xv v (!lt i)) (hlen : vs.length ≤ 64) (hmono : ∀ i j, i ≤ j → lt j = true → lt i = true)
   (hdp : dp + 1 < recursionLimit) (hu : un + 90 < cLine)
   (ret : ∀ (r : Nat) h' tk', r ≤ vs.length → (∀ i, i < r → lt i = true) → (∀ i, r ≤ i → i < vs.length → lt i = false) → Fr h₀ L h' m → News h₀ L h' ((l, listOf (vs.take r ++ xv :: vs.drop r).toArray (n + 1)) :: rest) → Q .none { s with heap := h', toks := tk' }) :
   wpAny (model PySem.Challenge.rw_pg0107_01.row.prog w) (ktrTop dp un gd cn cs L a ccd cl outer) (call (.ref 30) [.ref l, xv]) Q E s := by
  revert X; k_fill; intro X
  k_dflt (refine enter_def [(Str.ofString "a", .ref l), (Str.ofString "x", xv), (Str.ofString "lo", .int 0 202), (Str.ofString "hi", .none), (Str.ofString "key", .none)] B F X N T hk (by k_is) (by k_is) (by ktr_room) (kp_binds (by k_in) (fun _ => rfl)) (by rfl) rfl rfl rfl (by decide) ?_)
  intro g L' h₁ tk FG F' N' B' X' T' lt'
  clear F N B X T
  k_fold
  k_steps
  refine Wait.mk ?_
  k_dflt (refine' br_gen _ (br_four (X := ?X) ?F) ?B ?F ?X ?N ?T ?hk ?hl ?hcmp ?hlen ?hmono ?hdp ?hu ?ret; (case F => k_asm); (case B => k_asm); (case X => k_asm); (case N => k_asm); (case T => k_asm); (case hk => first | rfl | assumption); (case hl => k_mem); (case hcmp => assumption); (case hlen => assumption); (case hmono => assumption); (case hdp => ktr_room); (case hu => ktr_units); (case' ret => (intro _ _ _ _ _ _ _ _ _)))
  k_steps
  rename Fr g L' _ _ => lF
  rename News g L' _ _ => lN
  refine leaveK_ lF lN ?_
  intro kF kN
  exact ret _ _ _ (by assumption) (by assumption) (by assumption) kF kN
end
end Mine
end
section
open PySem PySem.W PyProof.Rows PySem.Calls PySem.Spec PyProof.V
set_option Elab.async false
set_option maxRecDepth 100000
set_option maxHeartbeats 8000000
set_option pp.deepTerms false
set_option pp.proofs false
namespace Mine
abbrev rowDat (r : Str × Int) : Dat := .list [.str r.1, .int r.2]
theorem row_of {news : List (Addr × Obj)} {v : Value} {r : Str × Int} (h : DatIn news v (rowDat r)) : ∃ a t u n, v = .ref a ∧ (a, rowObj r.1 r.2 t u n) ∈ news := by
  cases h with
  | list hm hd =>
    cases hd with
    | cons h1 hd =>
      cases hd with
      | cons h2 hd =>
        cases hd
        cases h1
        cases h2
        exact ⟨_, _, _, _, rfl, hm⟩
theorem rows_cmp {w : World} {news : List (Addr × Obj)} {vs : List Value} {rs : List (Str × Int)} {D : Addr} {k : Str} {p : Int} {t u : Tok} {n : Nat} (hd : DatAll news vs (rs.map rowDat)) (hD : (D, rowObj k p t u n) ∈ news) (hok : ∀ r ∈ rs, RowOk r) (hk : RowOk (k, p)) :
    ∀ i v, vs[i]? = some v → CmpN w news v (.ref D) (ltAt (rs.map code) (code (k, p)) i) := by
  intro i v hv
  have hi : i < (rs.map rowDat).length := by rw [← hd.length]; exact (List.getElem?_eq_some_iff.mp hv).1
  obtain ⟨v', h1, h2⟩ := hd.get hi
  rw [hv] at h1
  cases h1
  have hi' : i < rs.length := by simpa using hi
  have h3 : (rs.map rowDat)[i] = rowDat rs[i] := by simp
  rw [h3] at h2
  obtain ⟨a, t', u', n', rfl, hm⟩ := row_of h2
  have e : ltAt (rs.map code) (code (k, p)) i = rowLt rs[i] (k, p) := by
    rw [rowLt_code (hok _ (List.getElem_mem hi')) hk]
    unfold ltAt
    simp [hi']
  rw [e]
  exact cmp_rows hm hD
theorem rows_cmpR {w : World} {news : List (Addr × Obj)} {vs : List Value} {rs : List (Str × Int)} {D : Addr} {k : Str} {p : Int} {t u : Tok} {n : Nat} (hd : DatAll news vs (rs.map rowDat)) (hD : (D, rowObj k p t u n) ∈ news) (hok : ∀ r ∈ rs, RowOk r) (hk : RowOk (k, p)) :
    ∀ i v, vs[i]? = some v → CmpN w news (.ref D) v (!leAt (rs.map code) (code (k, p)) i) := by
  intro i v hv
  have hi : i < (rs.map rowDat).length := by rw [← hd.length]; exact (List.getElem?_eq_some_iff.mp hv).1
  obtain ⟨v', h1, h2⟩ := hd.get hi
  rw [hv] at h1
  cases h1
  have hi' : i < rs.length := by simpa using hi
  have h3 : (rs.map rowDat)[i] = rowDat rs[i] := by simp
  rw [h3] at h2
  obtain ⟨a, t', u', n', rfl, hm⟩ := row_of h2
  have e : (!leAt (rs.map code) (code (k, p)) i) = rowLt (k, p) rs[i] := by
    rw [rowLt_code hk (hok _ (List.getElem_mem hi'))]
    unfold leAt
    rw [List.getElem?_map, List.getElem?_eq_getElem hi']
    simp only [Option.map_some]
    by_cases hh : code rs[i] ≤ code (k, p)
    · rw [decide_eq_true hh, decide_eq_false (by omega)]; rfl
    · rw [decide_eq_false hh, decide_eq_true (by omega)]; rfl
  rw [e]
  exact cmp_rows hD hm
theorem ints_cmp {w : World} {news : List (Addr × Obj)} {vs : List Value} {ns : List Int} {x : Int} {t : Tok} (hi : IntsAre vs ns) : ∀ i v, vs[i]? = some v → CmpN w news v (.int x t) (ltAt ns x i) := by
  intro i v hv
  have hl : i < ns.length := by rw [← hi.length]; exact (List.getElem?_eq_some_iff.mp hv).1
  obtain ⟨t', h1⟩ := hi.get i ns[i] (List.getElem?_eq_getElem hl)
  rw [hv] at h1
  cases h1
  have e : ltAt ns x i = decide (ns[i] < x) := by unfold ltAt; simp [hl]
  rw [e]
  exact cmp_ints
theorem ints_take_drop {vs : List Value} {ns : List Int} (h : IntsAre vs ns) : ∀ r, IntsAre (vs.take r) (ns.take r) ∧ IntsAre (vs.drop r) (ns.drop r) := by
  induction h with
  | nil => intro r; simp; exact .nil
  | cons k t r ih =>
    intro j
    cases j with
    | zero => exact ⟨.nil, .cons k t r⟩
    | succ j => exact ⟨.cons k t (ih j).1, (ih j).2⟩
theorem ints_append {vs ws : List Value} {ns ms : List Int} (h : IntsAre vs ns) (h2 : IntsAre ws ms) : IntsAre (vs ++ ws) (ns ++ ms) := by
  induction h with
  | nil => exact h2
  | cons k t r ih => exact .cons k t ih
theorem dat_take_drop {nw : List (Addr × Obj)} {vs : List Value} {ds : List Dat} (h : DatAll nw vs ds) (r : Nat) : DatAll nw (vs.take r) (ds.take r) ∧ DatAll nw (vs.drop r) (ds.drop r) := by
  induction r generalizing vs ds with
  | zero => exact ⟨.nil, h⟩
  | succ r ih =>
    cases h with
    | nil => exact ⟨.nil, .nil⟩
    | cons h t => exact ⟨.cons h (ih t).1, (ih t).2⟩
theorem rows_del {rs : List (Str × Int)} {r : Nat} {x : Str × Int} (hs : Sorted (rs.map code)) (hok : ∀ r ∈ rs, RowOk r) (hx : RowOk x) (hr : (rs.map code)[r]? = some (code x)) :
    Sorted ((rs.take r ++ rs.drop (r + 1)).map code) ∧ ∀ y, y ∈ rs.take r ++ rs.drop (r + 1) ↔ y ∈ rs ∧ y ≠ x := by
  have e : (rs.take r ++ rs.drop (r + 1)).map code = (rs.map code).take r ++ (rs.map code).drop (r + 1) := by simp [List.map_take, List.map_drop]
  have sub : ∀ y, y ∈ rs.take r ++ rs.drop (r + 1) → y ∈ rs := fun y h => (List.mem_append.mp h).elim List.mem_of_mem_take List.mem_of_mem_drop
  refine ⟨by rw [e]; exact del_sorted hs, fun y => ⟨fun h => ⟨sub y h, fun e' => ?_⟩, fun ⟨h, hne⟩ => ?_⟩⟩
  · have h1 : code y ∈ (rs.map code).take r ++ (rs.map code).drop (r + 1) := by rw [← e]; exact List.mem_map_of_mem h
    exact ((mem_del hs hr).mp h1).2 (by rw [e'])
  · have h1 : code y ∈ (rs.map code).take r ++ (rs.map code).drop (r + 1) := (mem_del hs hr).mpr ⟨List.mem_map_of_mem h, fun e' => hne (code_inj (hok y h) hx e')⟩
    rw [← e] at h1
    obtain ⟨z, hz, e'⟩ := List.mem_map.mp h1
    rw [← code_inj (hok z (sub z hz)) (hok y h) e']
    exact hz
theorem rows_ins {rs : List (Str × Int)} {r : Nat} {x : Str × Int} (hs : Sorted (rs.map code)) (hr : RightAt (rs.map code) (code x) r) (hx : code x ∉ rs.map code) :
    Sorted ((rs.take r ++ x :: rs.drop r).map code) ∧ ∀ y, y ∈ rs.take r ++ x :: rs.drop r ↔ y = x ∨ y ∈ rs := by
  have e : (rs.take r ++ x :: rs.drop r).map code = (rs.map code).take r ++ code x :: (rs.map code).drop r := by simp [List.map_take, List.map_drop]
  have low : ∀ i c, i < r → (rs.map code)[i]? = some c → c < code x := fun i c h1 h2 => by
    have h3 := hr.low i c h1 h2
    have h4 : c ≠ code x := fun e' => hx (e' ▸ List.mem_of_getElem? h2)
    omega
  exact ⟨by rw [e]; exact ins_sorted hs low hr.high, fun y => mem_ins⟩
local macro_rules | `(tactic| k_room) => `(tactic| ktr_room)
local macro_rules | `(tactic| k_mem) => `(tactic| first | assumption | (refine List.mem_cons_of_mem _ ?_; k_mem))
local macro_rules | `(tactic| walk_at "call ref") => `(tactic| refine wait_at ?_)
theorem isi_list {prog : Program} {w : World} {A : Around} {E : Value → Shared → Prop} {s : Shared} {h₀ : Heap} {L b : Addr} {xs : Array Value} {n : Nat} {news : List (Addr × Obj)} {Q : Value → Shared → Prop} (N : News h₀ L s.heap news) (hm : (b, listOf xs n) ∈ news) (h : ∀ tk, Q (.bool false) { s with toks := tk }) :
    wpAny (model prog w) A (call (.builtin "isinstance") [.ref b, .type "str"]) Q E s := PySem.IsiPair.list_str (N _ hm).1 rfl (h _)
local macro_rules | `(tactic| walk_at "call builtin:isinstance") => `(tactic| (k_here; k_dflt (refine isi_list (by k_asm) (by k_mem) ?_; intro tk')))
local macro_rules | `(tactic| walk_at "subscriptTail Name Constant ref int") => `(tactic| (k_here; k_dflt (refine item_at (by k_asm) (by k_mem) (by decide) (by decide) rfl ?_)))
section
variable {w : World} {mean : ExcName → Option Value} {mg mb : Str → Option Value} {dp un : Nat} {gd : Option (List Code)} {cn : Str} {cs : Scope} {a : Addr} {ccd : Value} {cl : List (Str × Addr)} {outer : List Env} {A₀ : Around} {base h₀ : Heap} {L : Addr} {m : Str → Option Value} {rest : List (Addr × Obj)} {s : Shared} {Q E : Value → Shared → Prop}
theorem out_bad {lx lf : Addr} {fvs : List Value} {fs : List Int} {nf : Nat} {p : Int} {t t' : Tok} {e : Str}
   (B : Below A₀ base outer h₀) (F : Fr h₀ L s.heap m) (X : (hd.heap_39 w.params).In h₀) (N : News h₀ L s.heap ((lf, listOf fvs.toArray nf) :: rest)) (T : Top hd.view_39 LW mean mg mb h₀) (hk : cs.kind = .function)
   (hne : ∀ q ∈ rest, q.1 ≠ lf) (hi : IntsAre fvs fs) (hlen : fvs.length ≤ 64) (hs : Sorted fs) (hp : p ∈ fs)
   (hdp : dp + 1 < recursionLimit) (hu : un + 90 < cLine)
   (ret : ∀ fvs' fs' n' h' tk', IntsAre fvs' fs' → Sorted fs' → (∀ y, y ∈ fs' ↔ y ∈ fs ∧ y ≠ p) → Fr h₀ L h' m → News h₀ L h' ((lf, listOf fvs'.toArray n') :: rest) → Q .none { s with heap := h', toks := tk' }) :
   wpAny (model PySem.Challenge.rw_pg0107_01.row.prog w) (ktrTop dp un gd cn cs L a ccd cl outer) (call (.ref 78) [.ref lx, .ref lf, .int p t, .str e t']) Q E s := by
  revert X; k_fill; intro X
  k_dflt (refine enter_def [(Str.ofString "index", .ref lx), (Str.ofString "faults", .ref lf), (Str.ofString "place", .int p t), (Str.ofString "read", .str e t')] B F X N T hk (by k_is) (by k_is) (by ktr_room) (BindsTo.of_eq rfl) (by rfl) rfl rfl rfl (by decide) ?_)
  intro g L' h₁ tk FG F' N' B' X' T' lt'
  clear F N B X T
  k_fold
  w_top off
  k_steps
  refine Wait.mk ?_
  k_dflt (refine' bl_gen _ (bl_two (X := ?X) ?F) ?B ?F ?X ?N ?T ?hk ?hl ?hcmp ?hlen ?hmono ?hdp ?hu ?ret; (case F => k_asm); (case B => k_asm); (case X => k_asm); (case N => k_asm); (case T => k_asm); (case hk => first | rfl | assumption); (case hl => k_mem); (case hcmp => exact ints_cmp (by assumption)); (case hlen => assumption); (case hmono => exact ltAt_mono (by assumption) _); (case hdp => ktr_room); (case hu => ktr_units); (case' ret => (intro _ _ _ _ _ _ _ _ _)))
  k_steps
  rename Fr g L' _ _ => lF
  rename News g L' _ _ => lN
  rename (∀ i, i < _ → ltAt _ _ _ = true) => q1
  rename (∀ i, _ ≤ i → i < _ → ltAt _ _ _ = false) => q2
  rename_i r t2 h3 tk3 q0
  have hle : fvs.length = fs.length := hi.length
  have hA : LeftAt fs p r := .of (by omega) q1 (fun i h1 h2 => q2 i h1 (by omega))
  have hr := left_hit hs hA hp
  obtain ⟨t3, hr'⟩ := hi.get r p hr
  k_dflt (refine pop_at lF lN hne hr' hlen ?_)
  intro h' F₂ N₂
  k_steps
  refine leaveK_ F₂ N₂ ?_
  intro kF kN
  exact ret _ _ _ _ _ (ints_append (ints_take_drop hi r).1 (ints_take_drop hi (r + 1)).2) (del_sorted hs) (fun y => mem_del hs hr) kF kN
theorem out_ok {lx lf b c : Addr} {vs : List Value} {rs : List (Str × Int)} {nx nb nc : Nat} {p : Int} {t tk0 : Tok} {k : Str} {v2 : Value}
   (B : Below A₀ base outer h₀) (F : Fr h₀ L s.heap m) (X : (hd.heap_39 w.params).In h₀) (N : News h₀ L s.heap ((lx, listOf vs.toArray nx) :: rest)) (T : Top hd.view_39 LW mean mg mb h₀) (hk : cs.kind = .function)
   (hne : ∀ q ∈ rest, q.1 ≠ lx) (hv : DatAll rest vs (rs.map rowDat)) (hlen : vs.length ≤ 64) (hok : ∀ r ∈ rs, RowOk r) (hs : Sorted (rs.map code)) (hkp : RowOk (k, p)) (hp : (k, p) ∈ rs)
   (hb : (b, listOf #[.ref c] nb) ∈ rest) (hc : (c, ({ cls := .type "tuple", data := .seq #[.str k tk0, v2] nc } : Obj)) ∈ rest)
   (hdp : dp + 1 < recursionLimit) (hu : un + 90 < cLine)
   (ret : ∀ (vs' : List Value) (rs' : List (Str × Int)) n' h' tk', DatAll rest vs' (rs'.map rowDat) → Sorted (rs'.map code) → (∀ y, y ∈ rs' ↔ y ∈ rs ∧ y ≠ (k, p)) → Fr h₀ L h' m → News h₀ L h' ((lx, listOf vs'.toArray n') :: rest) → Q .none { s with heap := h', toks := tk' }) :
   wpAny (model PySem.Challenge.rw_pg0107_01.row.prog w) (ktrTop dp un gd cn cs L a ccd cl outer) (call (.ref 78) [.ref lx, .ref lf, .int p t, .ref b]) Q E s := by
  revert X; k_fill; intro X
  k_dflt (refine enter_def [(Str.ofString "index", .ref lx), (Str.ofString "faults", .ref lf), (Str.ofString "place", .int p t), (Str.ofString "read", .ref b)] B F X N T hk (by k_is) (by k_is) (by ktr_room) (BindsTo.of_eq rfl) (by rfl) rfl rfl rfl (by decide) ?_)
  intro g L' h₁ tk FG F' N' B' X' T' lt'
  clear F N B X T
  k_fold
  k_steps
  refine Wait.mk ?_
  k_dflt (refine' bl_gen _ (bl_two (X := ?X) ?F) ?B ?F ?X ?N ?T ?hk ?hl ?hcmp ?hlen ?hmono ?hdp ?hu ?ret; (case F => k_asm); (case B => k_asm); (case X => k_asm); (case N => k_asm); (case T => k_asm); (case hk => first | rfl | assumption); (case hl => k_mem); (case hcmp => exact rows_cmp (DatAll.mono (fun _ hp => List.mem_cons_of_mem _ (List.mem_cons_of_mem _ hp)) (by assumption)) (by k_mem) (by assumption) (by assumption)); (case hlen => assumption); (case hmono => exact ltAt_mono (by assumption) _); (case hdp => ktr_room); (case hu => ktr_units); (case' ret => (intro _ _ _ _ _ _ _ _ _)))
  k_steps
  rename Fr g L' _ _ => lF
  rename News g L' _ _ => lN
  rename (∀ i, i < _ → ltAt _ _ _ = true) => q1
  rename (∀ i, _ ≤ i → i < _ → ltAt _ _ _ = false) => q2
  rename_i r t2 h3 tk3 q0
  have hle : vs.length = rs.length := by simpa using hv.length
  have hA : LeftAt (rs.map code) (code (k, p)) r := .of (by simp; omega) q1 (fun i h1 h2 => q2 i h1 (by simpa [hle] using h2))
  have hr := left_hit hs hA (List.mem_map_of_mem hp)
  have hr2 : r < vs.length := by have := (List.getElem?_eq_some_iff.mp hr).1; simp at this; omega
  have N₂ : News g L' h3 ((lx, listOf vs.toArray nx) :: rest) := fun q hq => lN q (.tail _ hq)
  k_dflt (refine pop_at lF N₂ hne (List.getElem?_eq_getElem hr2) hlen ?_)
  intro h' F₂ N₃
  k_steps
  refine leaveK_ F₂ N₃ ?_
  intro kF kN
  obtain ⟨r1, r2⟩ := rows_del hs hok hkp hr
  refine ret _ (rs.take r ++ rs.drop (r + 1)) _ _ _ ?_ r1 r2 kF kN
  have h1 := (dat_take_drop hv r).1.append (dat_take_drop hv (r + 1)).2
  simpa [List.map_take, List.map_drop] using h1
end
section
variable {w : World} {mean : ExcName → Option Value} {mg mb : Str → Option Value} {dp un : Nat} {gd : Option (List Code)} {cn : Str} {cs : Scope} {a : Addr} {ccd : Value} {cl : List (Str × Addr)} {outer : List Env} {A₀ : Around} {base h₀ : Heap} {L : Addr} {m : Str → Option Value} {rest : List (Addr × Obj)} {s : Shared} {Q E : Value → Shared → Prop}
theorem in_bad {lx lf : Addr} {fvs : List Value} {fs : List Int} {nf : Nat} {p : Int} {t t' : Tok} {e : Str}
   (B : Below A₀ base outer h₀) (F : Fr h₀ L s.heap m) (X : (hd.heap_39 w.params).In h₀) (N : News h₀ L s.heap ((lf, listOf fvs.toArray nf) :: rest)) (T : Top hd.view_39 LW mean mg mb h₀) (hk : cs.kind = .function)
   (hne : ∀ q ∈ rest, q.1 ≠ lf) (hi : IntsAre fvs fs) (hlen : fvs.length ≤ 64) (hs : Sorted fs) (hp : p ∉ fs)
   (hdp : dp + 2 < recursionLimit) (hu : un + 100 < cLine)
   (ret : ∀ fvs' fs' n' h' tk', IntsAre fvs' fs' → Sorted fs' → (∀ y, y ∈ fs' ↔ y = p ∨ y ∈ fs) → Fr h₀ L h' m → News h₀ L h' ((lf, listOf fvs'.toArray n') :: rest) → Q .none { s with heap := h', toks := tk' }) :
   wpAny (model PySem.Challenge.rw_pg0107_01.row.prog w) (ktrTop dp un gd cn cs L a ccd cl outer) (call (.ref 85) [.ref lx, .ref lf, .int p t, .str e t']) Q E s := by
  revert X; k_fill; intro X
  k_dflt (refine enter_def [(Str.ofString "index", .ref lx), (Str.ofString "faults", .ref lf), (Str.ofString "place", .int p t), (Str.ofString "read", .str e t')] B F X N T hk (by k_is) (by k_is) (by ktr_room) (BindsTo.of_eq rfl) (by rfl) rfl rfl rfl (by decide) ?_)
  intro g L' h₁ tk FG F' N' B' X' T' lt'
  clear F N B X T
  k_fold
  w_top off
  k_steps
  refine Wait.mk ?_
  k_dflt (refine' il_spec _ ?B ?F ?X ?N ?T ?hk ?hne ?hcmp ?hlen ?hmono ?hdp ?hu ?ret; (case F => k_asm); (case B => k_asm); (case X => k_asm); (case N => k_asm); (case T => k_asm); (case hk => first | rfl | assumption); (case hne => assumption); (case hcmp => exact ints_cmp (by assumption)); (case hlen => assumption); (case hmono => exact ltAt_mono (by assumption) _); (case hdp => ktr_room); (case hu => ktr_units); (case' ret => (intro _ _ _ _ _ _ _ _)))
  k_steps
  rename Fr g L' _ _ => lF
  rename News g L' _ _ => lN
  rename (∀ i, i < _ → ltAt _ _ _ = true) => q1
  rename (∀ i, _ ≤ i → i < _ → ltAt _ _ _ = false) => q2
  rename_i r h3 tk3 q0
  have hle : fvs.length = fs.length := hi.length
  have hA : LeftAt fs p r := .of (by omega) q1 (fun i h1 h2 => q2 i h1 (by omega))
  refine leaveK_ lF lN ?_
  intro kF kN
  refine ret _ (fs.take r ++ p :: fs.drop r) _ _ _ (ints_append (ints_take_drop hi r).1 (.cons p t (ints_take_drop hi r).2)) (ins_sorted hs hA.low (fun i c h1 h2 => ?_)) (fun y => mem_ins) kF kN
  have h4 := hA.high i c h1 h2
  have h5 : c ≠ p := fun e' => hp (e' ▸ List.mem_of_getElem? h2)
  omega
end
theorem news_swap {h₀ h : Heap} {L : Addr} {x y : Addr × Obj} {r : List (Addr × Obj)} (N : News h₀ L h (x :: y :: r)) : News h₀ L h (y :: x :: r) := fun p hp => N p (by
  rcases List.mem_cons.mp hp with h | h
  · exact h ▸ .tail _ (.head _)
  · rcases List.mem_cons.mp h with h | h
    · exact h ▸ .head _
    · exact .tail _ (.tail _ h))
section
variable {w : World} {mean : ExcName → Option Value} {mg mb : Str → Option Value} {dp un : Nat} {gd : Option (List Code)} {cn : Str} {cs : Scope} {a : Addr} {ccd : Value} {cl : List (Str × Addr)} {outer : List Env} {A₀ : Around} {base h₀ : Heap} {L : Addr} {m : Str → Option Value} {rest : List (Addr × Obj)} {s : Shared} {Q E : Value → Shared → Prop}
theorem in_ok {lx lf b c : Addr} {vs : List Value} {rs : List (Str × Int)} {nx nb nc : Nat} {p : Int} {t tk0 : Tok} {k : Str} {v2 : Value}
   (B : Below A₀ base outer h₀) (F : Fr h₀ L s.heap m) (X : (hd.heap_39 w.params).In h₀) (N : News h₀ L s.heap ((lx, listOf vs.toArray nx) :: rest)) (T : Top hd.view_39 LW mean mg mb h₀) (hk : cs.kind = .function)
   (hne : ∀ q ∈ rest, q.1 ≠ lx) (hv : DatAll rest vs (rs.map rowDat)) (hlen : vs.length ≤ 64) (hok : ∀ r ∈ rs, RowOk r) (hs : Sorted (rs.map code)) (hkp : RowOk (k, p)) (hp : code (k, p) ∉ rs.map code)
   (hb : (b, listOf #[.ref c] nb) ∈ rest) (hc : (c, ({ cls := .type "tuple", data := .seq #[.str k tk0, v2] nc } : Obj)) ∈ rest)
   (hdp : dp + 2 < recursionLimit) (hu : un + 100 < cLine)
   (ret : ∀ (vs' : List Value) (rs' : List (Str × Int)) n' o D h' tk', lx < D → (∀ q ∈ rest, q.1 < D) → DatAll ((D, o) :: rest) vs' (rs'.map rowDat) → Sorted (rs'.map code) → (∀ y, y ∈ rs' ↔ y = (k, p) ∨ y ∈ rs) → Fr h₀ L h' m → News h₀ L h' ((lx, listOf vs'.toArray n') :: (D, o) :: rest) → Q .none { s with heap := h', toks := tk' }) :
   wpAny (model PySem.Challenge.rw_pg0107_01.row.prog w) (ktrTop dp un gd cn cs L a ccd cl outer) (call (.ref 85) [.ref lx, .ref lf, .int p t, .ref b]) Q E s := by
  revert X; k_fill; intro X
  k_dflt (refine enter_def [(Str.ofString "index", .ref lx), (Str.ofString "faults", .ref lf), (Str.ofString "place", .int p t), (Str.ofString "read", .ref b)] B F X N T hk (by k_is) (by k_is) (by ktr_room) (BindsTo.of_eq rfl) (by rfl) rfl rfl rfl (by decide) ?_)
  intro g L' h₁ tk FG F' N' B' X' T' lt'
  clear F N B X T
  k_fold
  k_steps
  refine Wait.mk ?_
  k_dflt (refine' ir_spec (leAt (rs.map code) (code (k, p))) B' (by k_asm) X' (news_swap (by k_asm)) T' rfl ?hne ?hcmp hlen (leAt_mono hs _) (by ktr_room) (by ktr_units) ?ret)
  case hne => exact List.forall_mem_cons.mpr ⟨by k_ne, hne⟩
  case hcmp => exact rows_cmpR (DatAll.mono (fun _ hp => List.mem_cons_of_mem _ (List.mem_cons_of_mem _ hp)) hv) (.tail _ (.head _)) hok hkp
  intro r h3 tk3 q0 q1 q2 lF lN
  k_steps
  refine leaveK_ lF lN ?_
  intro kF kN
  have hle : vs.length = rs.length := by simpa using hv.length
  have hA : RightAt (rs.map code) (code (k, p)) r := .of (by simp; omega) q1 (fun i h1 h2 => q2 i h1 (by simpa [hle] using h2))
  obtain ⟨r1, r2⟩ := rows_ins hs hA hp
  rename (_ ∧ AllLt _ _) => lD
  have all : ∀ {d : Nat} {l : List (Addr × Obj)}, AllLt d l → ∀ q ∈ l, q.1 < d := by
    intro d l
    induction l with
    | nil => intro _ q hq; cases hq
    | cons x l ih =>
      intro h q hq
      rcases List.mem_cons.mp hq with e | e
      · rw [e]; exact h.1
      · exact ih h.2 q e
  refine ret _ (rs.take r ++ (k, p) :: rs.drop r) _ _ _ _ _ lD.1 (all lD.2) ?_ r1 r2 kF kN
  rw [List.map_append, List.map_cons, List.map_take, List.map_drop]
  exact DatAll.append ((dat_take_drop hv r).1.mono fun _ hp => List.mem_cons_of_mem _ hp) (.cons (.list (vs := [.str k tk0, .int p t]) (.head _) (.cons (.str k tk0) (.cons (.int p t) .nil))) ((dat_take_drop hv r).2.mono fun _ hp => List.mem_cons_of_mem _ hp))
end
end Mine
end
section
open PySem PySem.W PyProof.Rows PySem.Calls PySem.Spec PyProof.V
set_option Elab.async false
set_option maxRecDepth 100000
set_option maxHeartbeats 8000000
set_option pp.deepTerms false
set_option pp.proofs false
namespace Mine
section
variable {prog : Program} {w : World} {E : Value → Shared → Prop} {s : Shared} {K : Frag} {L : Addr} {h₀ base : Heap} {m mg mb : Str → Option Value} {news : List (Addr × Obj)} {p : Program} {loose : List Str} {mean : ExcName → Option Value} {Q : Value → Shared → Prop} {A₀ A : Around}
  {dp un : Nat} {gd : Option (List Code)} {cn : Str} {cs : Scope} {a : Addr} {ccd : Value} {cl : List (Str × Addr)} {outer : List Env} {env : Env}
/-- a def of the text with captured names is entered -/
theorem enter_defC {name qual : Str} {params : Arguments} {body : List Stmt} {scope : Scope} {dV kV doc pm cdv ct oc : Value} {an od : Option Addr} {osl : Array (Option Value)} {f : Addr} {args : List Value} (binds : List (Str × Value))
    (B : Below A₀ base outer h₀) (F : Fr h₀ L s.heap m) (X : K.In h₀) (N : News h₀ L s.heap news) (T : Top p loose mean mg mb h₀) (hk : cs.kind = .function)
    (ho : K.lookup f = some ⟨oc, od, .func (fnOf name qual params body scope dV kV doc pm an cdv ct), osl⟩) (hcd : codeIn K cdv qual = true) (hroom : dp < recursionLimit)
    (hbind : BindsTo s (fnOf name qual params body scope dV kV doc pm an cdv ct) ⟨args, []⟩ binds)
    (hkind : ∀ n, ∀ x ∈ binds, scope.names.lookup x.1 = some .local ∨ (scope.names.lookup x.1 = some .cell ∧ ((cellsFrom n scope.names []).lookup x.1).isSome = true))
    (hnd : ((cellsFrom 0 scope.names []).map (·.1)).Nodup)
    (hco : scope.isCoroutine = false) (hgen : scope.isGenerator = false) (hk2 : scope.kind = .function)
    (h : ∀ g L' h₁ tk cells, Fr h₀ L g m → Fr g L' h₁ (bindL (envOfC qual scope L' f cdv).kindOf binds fun _ => none) → News g L' h₁ (cells ++ news) → CellsAre (bindC (envOfC qual scope L' f cdv).kindOf binds fun _ => none) (cellsFrom (L' + 1) scope.names []) cells →
      Below (ktrTop dp un gd cn cs L a ccd cl outer) base (envX cn cs L a ccd cl :: outer) g → K.In g → Top p loose mean mg mb g → (∀ p ∈ news, p.1 < L') →
      wpAny (model prog w) ((ktrTop dp un gd cn cs L a ccd cl outer).deeper (envOfC qual scope L' f cdv)) (execs body (envOfC qual scope L' f cdv))
        (fun fl s' => LeaveK h₀ L m g (fun r s' => match r with | .ok (.ret v) => Q v s' | .ok _ => False | .error e => E e s') (match fl with | .ret v => v | _ => .none) s')
        (fun e s' => wpAny (model prog w) ((ktrTop dp un gd cn cs L a ccd cl outer).deeper (envOfC qual scope L' f cdv)) (leaving (envOfC qual scope L' f cdv) e) (fun _ s'' => E e s'') (fun e' s'' => E e' s'') s')
        { s with heap := h₁, toks := tk }) :
    wpAny (model prog w) (ktrTop dp un gd cn cs L a ccd cl outer) (call (.ref f) args) Q E s :=
  wpAny_call (callX_cells (env := envX cn cs L a ccd cl) B F N T.nolimit rfl rfl hk ((X.keeps F.keep) _ _ ho) rfl (codeRec_of (X.keeps F.keep) hcd) hroom hbind hkind hnd (fun g L' h₁ tk cells FG F' N' Y B' st lt => h g L' h₁ tk cells FG F' N' Y B' (X.keeps st) (T.keeps st) lt) hco hgen hk2)
end
theorem pick_run' {vs : List Value} {x y : Int} (h : 0 ≤ x) (h1 : x ≤ y) (h2 : y ≤ vs.length) : (slicePick vs.toArray (some x) (some y) none) = ((vs.drop x.toNat).take (y.toNat - x.toNat)).toArray := by
  have e : sliceBounds (some x) (some y) none vs.toArray.size = (((x.toNat : Nat) : Int), ((y.toNat : Nat) : Int), 1) := by
    simp only [sliceBounds, Option.getD_none, show (1 : Int) > 0 by decide, if_true, if_neg (show ¬ (x < 0) by omega), if_neg (show ¬ (y < 0) by omega), List.size_toArray]
    congr 1
    · omega
    · congr 1
      omega
  rw [kmk_pick_nat _ e]
theorem pick_upto' {vs : List Value} {y : Int} (h : 0 ≤ y) (h2 : y ≤ vs.length) : (slicePick vs.toArray none (some y) none) = (vs.take y.toNat).toArray := by
  have e : sliceBounds none (some y) none vs.toArray.size = (((0 : Nat) : Int), ((y.toNat : Nat) : Int), 1) := by
    simp only [sliceBounds, Option.getD_none, show (1 : Int) > 0 by decide, if_true, if_neg (show ¬ (y < 0) by omega), List.size_toArray]
    congr 1
    congr 1
    omega
  rw [kmk_pick_nat _ e]; simp
theorem pick_from' {vs : List Value} {x : Int} (h : 0 ≤ x) (h2 : x ≤ vs.length) : (slicePick vs.toArray (some x) none none) = (vs.drop x.toNat).toArray := by
  have e : sliceBounds (some x) none none vs.toArray.size = (((x.toNat : Nat) : Int), ((vs.length : Nat) : Int), 1) := by
    simp only [sliceBounds, Option.getD_none, show (1 : Int) > 0 by decide, if_true, if_neg (show ¬ (x < 0) by omega), List.size_toArray]
    congr 1
    omega
  rw [kmk_pick_nat _ e]
  simp only [List.toList_toArray]
  rw [List.take_of_length_le (by rw [List.length_drop]; exact Nat.le_refl _)]
section
variable {prog : Program} {w : World} {A : Around} {E : Value → Shared → Prop} {s : Shared} {h₀ : Heap} {L l : Addr} {m : Str → Option Value} {news : List (Addr × Obj)} {value slice : PySem.Expr} {vs : List Value} {n : Nat} {x y : Int} {t u : Tok} {Q : Value → Shared → Prop}
theorem cut_at' (F : Fr h₀ L s.heap m) (N : News h₀ L s.heap news) (hm : (l, listOf vs.toArray n) ∈ news) (h0 : 0 ≤ x) (h1 : x ≤ y) (h2 : y ≤ vs.length) (hv : vs.length ≤ 64)
    (h : ∀ D h', Fr h₀ L h' m → News h₀ L h' ((D, listOf ((vs.drop x.toNat).take (y.toNat - x.toNat)).toArray 0) :: news) → (∀ p ∈ news, p.1 < D) → Q (.ref D) { s with heap := h' })
    (hs : subscripted slice false (.ref l) (.ref s.heap.objs.size) = operate [.ref s.heap.objs.size, .ref l] (getItem (.ref l) (.ref s.heap.objs.size))) (ht : ∀ r, letTemporaryGo value (.ref l) r = pure ()) :
    wpAny (model prog w) A (subscriptTail value slice (.ref l) (.ref s.heap.objs.size)) Q E { s with heap := s.heap.push { cls := .type "slice", data := .fields #[.int x t, .int y u, .none] } } :=
  kmk_slice F N (News.isList N hm) (.int _ _) (.int _ _) (fun D h' F' N' l1 => h D h' F' (by rw [pick_run' h0 h1 h2] at N'; exact N') l1) hs ht (by rw [sizeLine_eq, List.size_toArray]; omega)
theorem cut_upto' (F : Fr h₀ L s.heap m) (N : News h₀ L s.heap news) (hm : (l, listOf vs.toArray n) ∈ news) (h0 : 0 ≤ y) (h2 : y ≤ vs.length) (hv : vs.length ≤ 64)
    (h : ∀ D h', Fr h₀ L h' m → News h₀ L h' ((D, listOf (vs.take y.toNat).toArray 0) :: news) → (∀ p ∈ news, p.1 < D) → Q (.ref D) { s with heap := h' })
    (hs : subscripted slice false (.ref l) (.ref s.heap.objs.size) = operate [.ref s.heap.objs.size, .ref l] (getItem (.ref l) (.ref s.heap.objs.size))) (ht : ∀ r, letTemporaryGo value (.ref l) r = pure ()) :
    wpAny (model prog w) A (subscriptTail value slice (.ref l) (.ref s.heap.objs.size)) Q E { s with heap := s.heap.push { cls := .type "slice", data := .fields #[.none, .int y u, .none] } } :=
  kmk_slice F N (News.isList N hm) .none (.int _ _) (fun D h' F' N' l1 => h D h' F' (by rw [pick_upto' h0 h2] at N'; exact N') l1) hs ht (by rw [sizeLine_eq, List.size_toArray]; omega)
theorem cut_from' (F : Fr h₀ L s.heap m) (N : News h₀ L s.heap news) (hm : (l, listOf vs.toArray n) ∈ news) (h0 : 0 ≤ x) (h2 : x ≤ vs.length) (hv : vs.length ≤ 64)
    (h : ∀ D h', Fr h₀ L h' m → News h₀ L h' ((D, listOf (vs.drop x.toNat).toArray 0) :: news) → (∀ p ∈ news, p.1 < D) → Q (.ref D) { s with heap := h' })
    (hs : subscripted slice false (.ref l) (.ref s.heap.objs.size) = operate [.ref s.heap.objs.size, .ref l] (getItem (.ref l) (.ref s.heap.objs.size))) (ht : ∀ r, letTemporaryGo value (.ref l) r = pure ()) :
    wpAny (model prog w) A (subscriptTail value slice (.ref l) (.ref s.heap.objs.size)) Q E { s with heap := s.heap.push { cls := .type "slice", data := .fields #[.int x t, .none, .none] } } :=
  kmk_slice F N (News.isList N hm) (.int _ _) .none (fun D h' F' N' l1 => h D h' F' (by rw [pick_from' h0 h2] at N'; exact N') l1) hs ht (by rw [sizeLine_eq, List.size_toArray]; omega)
end
def rdDat : Rd → Dat
  | .bad b => .str (Str.ofString (errS b))
  | .ok k v => .tuple [.str k, .str v]
end Mine
end
section
open PySem PySem.W PyProof.Rows PySem.Calls PySem.Spec PyProof.V PyProof.Rows.LCg
set_option Elab.async false
set_option maxRecDepth 100000
set_option maxHeartbeats 2000000
namespace Mine
section
variable {prog : Program} {w : World} {A : Around} {E : Value → Shared → Prop} {s : Shared} {h₀ : Heap} {L : Addr} {m : Str → Option Value} {env : Env}
/-- the test of a comprehension's clause, where there is one -/
def tstRun (prog : Program) (w : World) (A : Around) (tst : Option PySem.Expr) (env : Env) (Q : Bool → Shared → Prop) (E : Value → Shared → Prop) (s : Shared) : Prop := match tst with
  | none => Q true s
  | some c => wpAny (model prog w) A (isTrue c env (eval c env)) Q E s
theorem comp_loop {elt target iter : PySem.Expr} {tst : Option PySem.Expr} {scope : Scope} {pos : Pos} {it acc : Value} {env : Env} {R : Result → Shared → Prop} (I : Nat → Shared → Prop)
    (turn : ∀ n s, I n s → wpAny (model prog w) A (pyNext it) (fun r s₁ => match r with
      | none => R (.ok .next) s₁
      | some v => wpAny (model prog w) A (letOwnedTupleGo target it v) (fun _ s₀ => wpAny (model prog w) A (assign target env v) (fun _ s₂ =>
          tstRun prog w A tst env (fun ok s₃ => if ok = true then wpAny (model prog w) A (eval elt env) (fun x s₄ =>
            wpAny (model prog w) A (call (.builtin "list.append") [acc, x]) (fun _ s₅ => ∃ m, m < n ∧ I m s₅) (notedBy (model prog w) A env fun e s' => R (.error e) s') s₄) (notedBy (model prog w) A env fun e s' => R (.error e) s') s₃
            else ∃ m, m < n ∧ I m s₃) (notedBy (model prog w) A env fun e s' => R (.error e) s') s₂)
          (notedBy (model prog w) A env fun e s' => R (.error e) s') s₀) (notedBy (model prog w) A env fun e s' => R (.error e) s') s₁) (notedBy (model prog w) A env fun e s' => R (.error e) s') s)
    (n : Nat) (h : I n s) : codeAny (model prog w) A (.compLoop (.ListComp elt [⟨target, iter, tst.toList, 0⟩] scope pos) 0 it acc env) R s := by
  cases tst with
  | none =>
    refine kcp_loop I (fun n s hI => wpAny_mono (turn n s hI) (fun r s₁ h₁ => ?_) fun _ _ e => e) n h
    cases r with
    | none => exact h₁
    | some v =>
      dsimp only at h₁ ⊢
      refine wpAny_mono h₁ (fun _ s₀ h₂ => wpAny_mono h₂ (fun _ s₂ h₃ => ?_) fun _ _ e => e) fun _ _ e => e
      simpa only [tstRun, if_true] using h₃
  | some c => exact kct_loop I turn n h
/-- a turn's end -/
def CEnd (h₀ : Heap) (L : Addr) (m : Str → Option Value) (s : Shared) (Z : Heap → Prop) (D : Addr) (av : List Addr) (ys : List Value) (own : List (Addr × Obj)) (J : List (Addr × Obj) → Prop) (s' : Shared) : Prop :=
  ∃ h' tk nw', s' = { s with heap := h', toks := tk } ∧ Fr h₀ L h' m ∧ Z h' ∧ News h₀ L h' (own ++ (D, lst ys) :: nw') ∧ (∀ p ∈ nw', p.1 ∉ av) ∧ J nw'
theorem comp_core {elt target iter : PySem.Expr} {tst : Option PySem.Expr} {scope : Scope} {pos : Pos} {R : Result → Shared → Prop} {cenv : Env} {D I : Addr} {Z : Heap → Prop} {zs fp wr av : List Addr} {n : Nat} {P Md : Nat → Value → Heap → Prop} {St : Nat → Heap → Prop} {nw₀ : List (Addr × Obj)}
    (W : KTurns prog w A target I fp wr n P Md St) (hself : ∀ (s : Shared) (Q : Value → Shared → Prop) (E : Value → Shared → Prop), St 0 s.heap → Q (.ref I) s → wpAny (model prog w) A (pyIter (.ref I)) Q E s)
    (hsz : n ≤ sizeLine) (hav : ∀ b ∈ wr, b ∈ av) (hDav : D ∈ av) (hZ : ∀ h h', Z h → (∀ b ∈ zs, ∀ o, h.get? b = some o → h'.get? b = some o) → Z h') (hzw : ∀ b ∈ zs, b ∉ wr) (hzD : ∀ b ∈ zs, b ≠ D)
    (hLf : L ∉ fp) (hwr : ∀ b ∈ wr, h₀.get? b = none) (hDf : D ∉ fp) (hDL : D ≠ L) (hD0 : h₀.get? D = none)
    (hst : St 0 s.heap) (F : Fr h₀ L s.heap m) (hz : Z s.heap) (N : News h₀ L s.heap ((D, lst []) :: nw₀)) (hnw : ∀ p ∈ nw₀, p.1 ∉ av)
    (J : Nat → List Value → List (Addr × Obj) → Prop) (hJ0 : J 0 [] nw₀)
    (step : ∀ i v ys nw h tk own (E' : Value → Shared → Prop), i < n → P i v h → J i ys nw → ys.length ≤ i → (∀ b ∈ fp, h₀.get? b = none → ∀ o, h.get? b = some o → (b, o) ∈ own) → (∀ p ∈ own, p.1 ∈ fp) → Fr h₀ L h m → Z h → News h₀ L h (own ++ (D, lst ys) :: nw) → (∀ p ∈ nw, p.1 ∉ av) → St (i + 1) h →
      wpAny (model prog w) A (assign target cenv v) (fun _ s₂ => tstRun prog w A tst cenv (fun ok s₃ => if ok = true then wpAny (model prog w) A (eval elt cenv) (fun y s₄ => CEnd h₀ L m s Z D av ys own (J (i + 1) (ys ++ [y])) s₄) E' s₃
        else CEnd h₀ L m s Z D av ys own (J (i + 1) ys) s₃) E' s₂) E' { s with heap := h, toks := tk })
    (fin : ∀ h tk ys nw, J n ys nw → Fr h₀ L h m → Z h → News h₀ L h ((D, lst ys) :: nw) → (∀ p ∈ nw, p.1 ∉ av) → R (.ok .next) { s with heap := h, toks := tk }) :
    codeAny (model prog w) A (.compStart (.ListComp elt [⟨target, iter, tst.toList, 0⟩] scope pos) 0 (.ref I) (.ref D) cenv) R s := by
  have hLw : L ∉ wr := fun h => hLf (W.sub _ h)
  have hDw : D ∉ wr := fun h => hDf (W.sub _ h)
  have old : ∀ b o, h₀.get? b = some o → b ∉ wr := fun b o e hb => by rw [hwr b hb] at e; cases e
  have go : codeAny (model prog w) A (.compLoop (.ListComp elt [⟨target, iter, tst.toList, 0⟩] scope pos) 0 (.ref I) (.ref D) cenv) R s := by
    refine comp_loop
      (fun k s' => ∃ h' tk ys nw i, s' = { s with heap := h', toks := tk } ∧ St i h' ∧ Fr h₀ L h' m ∧ Z h' ∧ News h₀ L h' ((D, lst ys) :: nw) ∧ (∀ p ∈ nw, p.1 ∉ av) ∧ J i ys nw ∧ ys.length ≤ i ∧ i ≤ n ∧ k = n + 1 - i) ?_ (n + 1)
      ⟨s.heap, s.toks, [], nw₀, 0, rfl, hst, F, hz, N, hnw, hJ0, Nat.le_refl _, Nat.zero_le _, rfl⟩
    rintro k s' ⟨h', tk, ys, nw, i, rfl, hst', F', hn', N', hnw', hJ, hyl, hi, rfl⟩
    have next : ∀ h₁ : Heap, (∀ b o, b ∉ wr → h'.get? b = some o → h₁.get? b = some o) → Fr h₀ L h₁ m ∧ News h₀ L h₁ ((D, lst ys) :: nw) ∧ Z h₁ := fun h₁ hk₁ =>
      ⟨⟨F'.ns.at' fun o e => hk₁ _ o hLw e, fun b o e => hk₁ b o (old b o e) (F'.keep b o e), F'.above⟩, fun p hp => ⟨hk₁ _ _ (by
        rcases List.mem_cons.mp hp with rfl | hp
        · exact hDw
        · exact fun q => hnw' p hp (hav _ q)) (N' p hp).1, (N' p hp).2⟩, hZ _ _ hn' fun b hb o e => hk₁ b o (hzw b hb) e⟩
    by_cases hlt : i < n
    · refine W.item i _ _ _ hlt hst' fun v h₁ tk₁ hMd hk₁ => ?_
      refine W.go i v _ _ _ hMd fun h₂ hP hst₂ hk₂ => ?_
      obtain ⟨F₂, N₂, hn₂⟩ := next h₂ fun b o hb x => hk₂ b o hb (hk₁ b o hb x)
      have Nown : News h₀ L h₂ (PyProof.Rows.ownOf h₀ fp h₂) := news_ownOf hLf
      have ended : ∀ (j : List (Addr × Obj) → Prop) s₄, CEnd h₀ L m s Z D av ys (PyProof.Rows.ownOf h₀ fp h₂) j s₄ → ∃ h₄ tk₄ nw₄, s₄ = { s with heap := h₄, toks := tk₄ } ∧ St (i + 1) h₄ ∧ Fr h₀ L h₄ m ∧ Z h₄ ∧ News h₀ L h₄ ((D, lst ys) :: nw₄) ∧ (∀ p ∈ nw₄, p.1 ∉ av) ∧ j nw₄ := by
        rintro j s₄ ⟨h₄, tk₄, nw₄, rfl, F₄, hn₄, N₄, ha₄, hj⟩
        refine ⟨h₄, tk₄, nw₄, rfl, ?_, F₄, hn₄, N₄.right, ha₄, hj⟩
        refine W.frame _ _ _ hst₂ fun b hb o e => ?_
        cases hn : h₀.get? b with
        | some o₀ =>
          have : o₀ = o := by have q := F₂.keep b o₀ hn; rw [e] at q; exact (Option.some.inj q).symm
          exact this ▸ F₄.keep b o₀ hn
        | none => exact (N₄ _ (List.mem_append_left _ (mem_ownOf hb hn e))).1
      refine wpAny_mono (step i v ys nw h₂ tk₁ (PyProof.Rows.ownOf h₀ fp h₂) _ hlt hP hJ hyl (fun b hb hn o e => mem_ownOf hb hn e) ownOf_sub F₂ hn₂ (Nown.append N₂) hnw' hst₂) (fun _ s₂ h₂' => ?_) fun _ _ e => e
      have fT : ∀ (ok : Bool) (s₃ : Shared), (if ok = true then wpAny (model prog w) A (eval elt cenv) (fun y s₄ => CEnd h₀ L m s Z D av ys (PyProof.Rows.ownOf h₀ fp h₂) (J (i + 1) (ys ++ [y])) s₄) (notedBy (model prog w) A cenv fun e s' => R (.error e) s') s₃
        else CEnd h₀ L m s Z D av ys (PyProof.Rows.ownOf h₀ fp h₂) (J (i + 1) ys) s₃) → (if ok = true then wpAny (model prog w) A (eval elt cenv) (fun x s₄ =>
            wpAny (model prog w) A (call (.builtin "list.append") [.ref D, x]) (fun _ s₅ => ∃ m_1, m_1 < n + 1 - i ∧ ∃ h' tk ys nw i, s₅ = { s with heap := h', toks := tk } ∧ St i h' ∧ Fr h₀ L h' m ∧ Z h' ∧ News h₀ L h' ((D, lst ys) :: nw) ∧ (∀ p ∈ nw, p.1 ∉ av) ∧ J i ys nw ∧ ys.length ≤ i ∧ i ≤ n ∧ m_1 = n + 1 - i) (notedBy (model prog w) A cenv fun e s' => R (.error e) s') s₄) (notedBy (model prog w) A cenv fun e s' => R (.error e) s') s₃
            else ∃ m_1, m_1 < n + 1 - i ∧ ∃ h' tk ys nw i, s₃ = { s with heap := h', toks := tk } ∧ St i h' ∧ Fr h₀ L h' m ∧ Z h' ∧ News h₀ L h' ((D, lst ys) :: nw) ∧ (∀ p ∈ nw, p.1 ∉ av) ∧ J i ys nw ∧ ys.length ≤ i ∧ i ≤ n ∧ m_1 = n + 1 - i) := by
        intro ok s₃ hq
        cases ok with
        | false =>
          simp only [Bool.false_eq_true, if_false] at hq ⊢
          obtain ⟨h₄, tk₄, nw₄, e4, hst₄, F₄, hn₄, N₄, ha₄, hj⟩ := ended _ _ hq
          exact ⟨n + 1 - (i + 1), by omega, h₄, tk₄, ys, nw₄, i + 1, e4, hst₄, F₄, hn₄, N₄, ha₄, hj, by omega, hlt, rfl⟩
        | true =>
          simp only [if_true] at hq ⊢
          refine wpAny_mono hq (fun y s₄ hy => ?_) fun _ _ e => e
          obtain ⟨h₄, tk₄, nw₄, rfl, hst₄, F₄, hn₄, N₄, ha₄, hj⟩ := ended _ _ hy
          have zD := (N₄ (D, lst ys) List.mem_cons_self).1
          refine append_at (hsz := by show ys.toArray.size ≤ sizeLine; rw [List.size_toArray]; omega) zD fun h₅ hs₅ hD₅ => ?_
          refine ⟨n + 1 - (i + 1), by omega, h₅, tk₄, ys ++ [y], nw₄, i + 1, rfl, ?_, F₄.change hs₅ hDL hD0, hZ _ _ hn₄ (fun b hb o e => hs₅.extBut b o (hzD b hb) e), fun p hp => ?_, ha₄, hj, by rw [List.length_append, List.length_singleton]; omega, hlt, rfl⟩
          · exact W.frame _ _ _ hst₄ fun b hb o e => hs₅.extBut b o (fun q => hDf (q ▸ hb)) e
          · rcases List.mem_cons.mp hp with rfl | hp
            · exact ⟨hD₅.trans (congrArg some (lst_snoc ys y)), hDL, hD0⟩
            · exact ⟨hs₅.extBut _ _ (fun q => ha₄ p hp (q ▸ hDav)) (N₄ p (.tail _ hp)).1, (N₄ p (.tail _ hp)).2⟩
      cases tst with
      | none => exact fT true s₂ h₂'
      | some c => exact wpAny_mono h₂' (fun ok s₃ hq => fT ok s₃ hq) fun _ _ e => e
    · obtain rfl : i = n := Nat.le_antisymm hi (Nat.not_lt.mp hlt)
      refine W.done _ _ _ hst' fun h₂ tk₂ hk₂ => ?_
      obtain ⟨F₂, N₂, hn₂⟩ := next h₂ hk₂
      exact fin h₂ tk₂ ys nw hJ F₂ hn₂ N₂ hnw'
  exact codeAny_compStart_list go (hself s _ _ hst go)
end
end Mine
end
section
open PySem PySem.W PyProof.Rows PySem.Calls PySem.Spec PyProof.V PyProof.Rows.LCg
set_option Elab.async false
set_option maxRecDepth 100000
set_option maxHeartbeats 2000000
set_option linter.unusedVariables false
namespace Mine
section
variable {prog : Program} {w : World} {A : Around} {E : Value → Shared → Prop} {s : Shared} {h₀ : Heap} {L : Addr} {m : Str → Option Value} {env : Env}
/-- an iterator, ready to be walked -/
structure SrcOk (prog : Program) (w : World) (A : Around) (h₀ : Heap) (L : Addr) (m : Str → Option Value) (target : PySem.Expr) (n : Nat) (P : Nat → Value → Heap → Prop) (nw : List (Addr × Obj)) (it : Value) (s₂ : Shared) (I : Addr) (fp wr : List Addr) (Md : Nat → Value → Heap → Prop) (St : Nat → Heap → Prop) : Prop where
  isRef : it = .ref I
  walk : KTurns prog w A target I fp wr n P Md St
  self : ∀ (s : Shared) (Q : Value → Shared → Prop) (E : Value → Shared → Prop), St 0 s.heap → Q (.ref I) s → wpAny (model prog w) A (pyIter (.ref I)) Q E s
  objs : ∀ i h, St i h → ∀ b ∈ wr, ∃ o, h.get? b = some o
  lt : ∀ b ∈ fp, b < s₂.heap.objs.size
  offL : L ∉ fp
  new : ∀ b ∈ wr, h₀.get? b = none
  off : ∀ p ∈ nw, p.1 ∉ wr
  st : St 0 s₂.heap
  fr : Fr h₀ L s₂.heap m
  nws : News h₀ L s₂.heap nw
/-- what a turn leaves, the new frame on the ledger -/
def CStep (h₀ : Heap) (L : Addr) (m : Str → Option Value) (s : Shared) (led nw : List (Addr × Obj)) (J : List (Addr × Obj) → Prop) (s' : Shared) : Prop :=
  ∃ h' tk nw', s' = { s with heap := h', toks := tk } ∧ Fr h₀ L h' m ∧ News h₀ L h' led ∧ News h₀ L h' nw' ∧ (∀ p ∈ nw', p ∈ nw ∨ ∀ q ∈ led, q.1 < p.1) ∧ J nw'
/-- the turn, from where its targets are bound -/
def CTurn (prog : Program) (w : World) (A : Around) (h₀ : Heap) (L : Addr) (m : Str → Option Value) (tst : Option PySem.Expr) (elt : PySem.Expr) (s : Shared) (J : Nat → List Value → List (Addr × Obj) → Prop) (i : Nat) (ys : List Value) (nw : List (Addr × Obj)) (cenv : Env) (led : List (Addr × Obj)) (E' : Value → Shared → Prop) (s₂ : Shared) : Prop :=
  tstRun prog w A tst cenv (fun ok s₃ => if ok = true then wpAny (model prog w) A (eval elt cenv) (fun y s₄ => CStep h₀ L m s led nw (J (i + 1) (ys ++ [y])) s₄) E' s₃ else CStep h₀ L m s led nw (J (i + 1) ys) s₃) E' s₂
/-- what all turns have -/
structure CGround (h₀ : Heap) (L : Addr) (m : Str → Option Value) (ys : List Value) (nw : List (Addr × Obj)) (C D : Addr) (cs : List Addr) (oC : Obj) (m₂ : Str → Option Value) (led : List (Addr × Obj)) (h : Heap) : Prop where
  cells : ∀ c ∈ cs, ∀ o, h.get? c = some o → (c, o) ∈ led
  fr : Fr h₀ L h m
  nws : News h₀ L h led
  sub : ∀ p ∈ nw, p ∈ led
  frame : (C, oC) ∈ led
  acc : (D, lst ys) ∈ led
  ns : NsObj oC m₂
  off : ∀ p ∈ nw, p.1 ≠ C ∧ p.1 ≠ D
  apart : C ≠ D
theorem ctest_mono {tst : Option PySem.Expr} {cenv : Env} {Q Q' : Bool → Shared → Prop} {s₂ : Shared} (h : tstRun prog w A tst cenv Q E s₂) (hq : ∀ b s, Q b s → Q' b s) : tstRun prog w A tst cenv Q' E s₂ := by
  cases tst with
  | none => exact hq _ _ h
  | some c => exact wpAny_mono h hq fun _ _ e => e
theorem cturn_end {tst : Option PySem.Expr} {elt : PySem.Expr} {J : Nat → List Value → List (Addr × Obj) → Prop} {i : Nat} {ys : List Value} {nw own led : List (Addr × Obj)} {cenv : Env} {E' : Value → Shared → Prop} {s₂ : Shared} {Z : Heap → Prop} {D : Addr} {av : List Addr}
    (hled : ∀ p ∈ own, p ∈ led) (hD : (D, lst ys) ∈ led) (hZ : ∀ h, News h₀ L h led → Z h) (hoff : ∀ p ∈ nw, p.1 ∉ av) (hw : ∀ b ∈ av, ∃ o, (b, o) ∈ led)
    (h : CTurn prog w A h₀ L m tst elt s J i ys nw cenv led E' s₂) :
    tstRun prog w A tst cenv (fun ok s₃ => if ok = true then wpAny (model prog w) A (eval elt cenv) (fun y s₄ => CEnd h₀ L m s Z D av ys own (J (i + 1) (ys ++ [y])) s₄) E' s₃ else CEnd h₀ L m s Z D av ys own (J (i + 1) ys) s₃) E' s₂ := by
  have key : ∀ (j : List (Addr × Obj) → Prop) s', CStep h₀ L m s led nw j s' → CEnd h₀ L m s Z D av ys own j s' := by
    rintro j s' ⟨h', tk, nw', rfl, F', N', N₂, hsub, hj⟩
    refine ⟨h', tk, nw', rfl, F', hZ _ N', fun p hp => ?_, fun p hp => ?_, hj⟩
    · rcases List.mem_append.mp hp with hp | hp
      · exact N' p (hled p hp)
      · rcases List.mem_cons.mp hp with rfl | hp
        · exact N' _ hD
        · exact N₂ p hp
    · rcases hsub p hp with hp | hlt
      · exact hoff p hp
      · intro hm
        obtain ⟨o, ho⟩ := hw _ hm
        have := hlt _ ho
        exact absurd this (Nat.lt_irrefl _)
  refine ctest_mono h fun ok s₃ hq => ?_
  cases ok with
  | false => simp only [Bool.false_eq_true, if_false] at hq ⊢; exact key _ _ hq
  | true => simp only [if_true] at hq ⊢; exact wpAny_mono hq (fun y s₄ hy => key _ _ hy) fun _ _ e => e
/-- how a target is bound -/
def Binds (prog : Program) (w : World) (A : Around) (h₀ : Heap) (L : Addr) (target : PySem.Expr) (cenv : Env) (cs : List Addr) (P : Nat → Value → Heap → Prop) (G : Nat → (Str → Option Value) → Heap → Prop) : Prop :=
  ∀ i v (s : Shared) mc (Q : Unit → Shared → Prop) (E : Value → Shared → Prop), P i v s.heap → s.heap.Ns cenv.locals mc →
    (∀ c ∈ cs, ∃ o, s.heap.get? c = some o ∧ ∃ v, o.data = .cell v) →
    (∀ h' tk m₂, h'.Ns cenv.locals m₂ → G i m₂ h' → (∀ c ∈ cs, ∃ o, h'.get? c = some o ∧ ∃ v, o.data = .cell v) → (∀ b o, b ≠ cenv.locals → b ∉ cs → s.heap.get? b = some o → h'.get? b = some o) → Q () { s with heap := h', toks := tk }) → wpAny (model prog w) A (assign target cenv v) Q E s
theorem binds_name {x : Str} {px : Pos} {cenv : Env} {P : Nat → Value → Heap → Prop} {R : Nat → Value → Prop} (hx : cenv.kindOf x = some .local) (hp : (cenv.scope.kind == .class || (cenv.scope.kind == .module && cenv.locals != cenv.globals)) = false)
    (hP : ∀ i v h, P i v h → R i v) : Binds prog w A h₀ L (.Name x px) cenv [] P (fun i m₂ h => ∃ v, m₂ x = some v ∧ R i v) := by
  intro i v s mc Q E hv hn _ k
  refine wpAny_assign_Name (wpAny_storeName_local hx hn (fun h₃ hn₃ hs₃ => ?_) hp)
  exact k h₃ _ _ hn₃ ⟨v, by simp, hP _ _ _ hv⟩ (fun _ h => nomatch h) fun b o hb _ e => hs₃.extBut b o hb e
theorem binds_pair {a b : Str} {pa pb tp : Pos} {kk : Nat} {cenv : Env} {P : Nat → Value → Heap → Prop} {R : Nat → Value → Value → Prop} (hh : A.handled = none) (ha : cenv.kindOf a = some .local) (hb : cenv.kindOf b = some .local) (hab : a ≠ b)
    (hp : (cenv.scope.kind == .class || (cenv.scope.kind == .module && cenv.locals != cenv.globals)) = false)
    (hP : ∀ i v h, P i v h → ∃ T x y, v = .ref T ∧ h.IsTuple T #[x, y] ∧ R i x y) : Binds prog w A h₀ L (.Tuple [.Name a pa, .Name b pb] kk tp) cenv [] P (fun i m₂ h => ∃ x y, m₂ a = some x ∧ m₂ b = some y ∧ R i x y) := by
  intro i v s mc Q E hv hn _ k
  obtain ⟨T, x, y, rfl, hT, hR⟩ := hP i v _ hv
  refine kcp_assign hh hT ha hb hp hn fun h' tk hn' hk => ?_
  exact k h' tk _ hn' ⟨x, y, by simp [hab], by simp, hR⟩ (fun _ h => nomatch h) fun b o hb _ e => hk b o hb e
theorem comp_run {elt target iter : PySem.Expr} {tst : Option PySem.Expr} {scope : Scope} {pos : Pos} {R : Result → Shared → Prop} {cenv : Env} {C D I : Addr} {cs fp wr : List Addr} {n : Nat} {P Md : Nat → Value → Heap → Prop} {St : Nat → Heap → Prop} {nw₀ : List (Addr × Obj)} {mc : Str → Option Value} {it : Value} {s₂ : Shared} {G : Nat → (Str → Option Value) → Heap → Prop}
    (S : SrcOk prog w A h₀ L m target n P nw₀ it s₂ I fp wr Md St) (J : Nat → List Value → List (Addr × Obj) → Prop) (hB : Binds prog w A h₀ L target cenv cs (fun i v h => P i v h ∧ ∃ ys nw, J i ys nw ∧ News h₀ L h nw) G) (hsz : n ≤ sizeLine)
    (hC : cenv.locals = C) (hCs : s₂.heap.objs.size ≤ C) (hDs : s₂.heap.objs.size ≤ D) (hCD : C ≠ D) (hcs : ∀ c ∈ cs, s₂.heap.objs.size ≤ c ∧ c ≠ C ∧ c ≠ D) (hcell : ∀ c ∈ cs, ∃ o, s.heap.get? c = some o ∧ ∃ v, o.data = .cell v)
    (up : ∀ b o, s₂.heap.get? b = some o → s.heap.get? b = some o) (hns : s.heap.Ns C mc) (hD : s.heap.get? D = some (lst [])) (hJ0 : J 0 [] nw₀)
    (step : ∀ i ys nw h tk m₂ oC led (E' : Value → Shared → Prop), i < n → J i ys nw → G i m₂ h → CGround h₀ L m ys nw C D cs oC m₂ led h → CTurn prog w A h₀ L m tst elt s J i ys nw cenv led E' { s with heap := h, toks := tk })
    (fin : ∀ h tk ys nw m', J n ys nw → Fr h₀ L h m → h.Ns C m' → News h₀ L h ((D, lst ys) :: nw) → (∀ p ∈ nw, p.1 ≠ C ∧ p.1 ≠ D) → R (.ok .next) { s with heap := h, toks := tk }) :
    codeAny (model prog w) A (.compStart (.ListComp elt [⟨target, iter, tst.toList, 0⟩] scope pos) 0 (.ref I) (.ref D) cenv) R s := by
  have fresh : ∀ a, s₂.heap.objs.size ≤ a → h₀.get? a = none := fun a ha => by
    cases e : h₀.get? a with
    | none => rfl
    | some o' => exact absurd (Heap.lt_size (S.fr.keep a o' e)) (Nat.not_lt.mpr ha)
  have off : ∀ a, s₂.heap.objs.size ≤ a → a ∉ fp := fun a ha hm => Nat.lt_irrefl _ (Nat.lt_of_lt_of_le (S.lt a hm) ha)
  have hLlt : L < s₂.heap.objs.size := S.fr.ns.lt
  have zs_ge : ∀ b ∈ C :: cs, s₂.heap.objs.size ≤ b := fun b hb => by
    rcases List.mem_cons.mp hb with rfl | hb
    · exact hCs
    · exact (hcs b hb).1
  have neL : ∀ a, s₂.heap.objs.size ≤ a → a ≠ L := fun a ha => Nat.ne_of_gt (Nat.lt_of_lt_of_le hLlt ha)
  have hCL : C ≠ L := neL C hCs
  have hDL : D ≠ L := neL D hDs
  have hnwlt : ∀ p ∈ nw₀, p.1 < s₂.heap.objs.size := fun p hp => Heap.lt_size (S.nws p hp).1
  refine comp_core (Z := fun h => (∃ m', h.Ns C m') ∧ ∀ c ∈ cs, ∃ o, h.get? c = some o ∧ ∃ v, o.data = .cell v) (zs := C :: cs) (av := D :: (C :: cs) ++ wr) S.walk S.self hsz (fun b hb => List.mem_append_right _ hb) (by simp)
    (fun h h' ⟨⟨m', hn⟩, hc⟩ hk => ⟨⟨m', hn.at' fun o e => hk C (.head _) o e⟩, fun c hm => let ⟨o, e, r⟩ := hc c hm; ⟨o, hk c (.tail _ hm) o e, r⟩⟩)
    (fun b hb hw => off b (zs_ge b hb) (S.walk.sub _ hw)) (fun b hb => by
      rcases List.mem_cons.mp hb with rfl | hb
      · exact hCD
      · exact (hcs b hb).2.2) S.offL S.new (off D hDs) hDL (fresh D hDs) (S.walk.frame _ _ _ S.st fun b _ o e => up b o e) (S.fr.keeps up) ⟨⟨mc, hns⟩, hcell⟩ (fun p hp => ?_) (fun p hp hm => ?_) J hJ0 ?_ ?_
  · rcases List.mem_cons.mp hp with rfl | hp
    · exact ⟨hD, hDL, fresh D hDs⟩
    · exact ⟨up _ _ (S.nws p hp).1, (S.nws p hp).2⟩
  · rcases List.mem_append.mp hm with hm | hm
    · rcases List.mem_cons.mp hm with e | hm
      · exact absurd (e ▸ hnwlt p hp) (Nat.not_lt.mpr hDs)
      · exact absurd (hnwlt p hp) (Nat.not_lt.mpr (zs_ge _ hm))
    · exact S.off p hp hm
  · rintro i v ys nw h tk own E' hi hP hJ hyl hown hownfp F₁ ⟨⟨m₁, hn₁⟩, hc₁⟩ N₁ hoff hst
    subst hC
    refine hB i v _ m₁ _ _ ⟨hP, ys, nw, hJ, fun p hp => N₁ p (List.mem_append_right _ (.tail _ hp))⟩ hn₁ hc₁ fun h' tk' m₂ hn₂ hG hc₂ hk => ?_
    obtain ⟨oC, heC, hoC⟩ := ns_obj hn₂
    have keep : ∀ b o, b ∉ cenv.locals :: cs → h.get? b = some o → h'.get? b = some o := fun b o hb e => hk b o (fun q => hb (q ▸ .head _)) (fun q => hb (.tail _ q)) e
    have F₂ : Fr h₀ L h' m := ⟨F₁.ns.at' fun o e => keep _ o (fun q => absurd rfl (neL _ (zs_ge _ q))) e, fun b o e => keep b o (fun q => by rw [fresh _ (zs_ge _ q)] at e; cases e) (F₁.keep b o e), F₁.above⟩
    have N₂ : News h₀ L h' (own ++ (D, lst ys) :: nw) := fun p hp => by
      refine ⟨keep _ _ ?_ (N₁ p hp).1, (N₁ p hp).2⟩
      rcases List.mem_append.mp hp with hp | hp
      · exact fun q => off _ (zs_ge _ q) (hownfp p hp)
      · rcases List.mem_cons.mp hp with rfl | hp
        · intro q
          rcases List.mem_cons.mp q with q | q
          · exact hCD q.symm
          · exact (hcs _ q).2.2 rfl
        · exact fun q => hoff p hp (List.mem_append_left _ (.tail _ q))
    have Lcs : L ∉ cenv.locals :: cs := fun q => absurd rfl (neL _ (zs_ge _ q))
    have Nz : News h₀ L h' (PyProof.Rows.ownOf h₀ (cenv.locals :: cs) h') := news_ownOf Lcs
    have inz : ∀ b ∈ cenv.locals :: cs, ∀ o, h'.get? b = some o → (b, o) ∈ PyProof.Rows.ownOf h₀ (cenv.locals :: cs) h' := fun b hb o e => mem_ownOf hb (fresh _ (zs_ge _ hb)) e
    have hCm := inz _ (.head _) oC heC
    refine cturn_end (led := PyProof.Rows.ownOf h₀ (cenv.locals :: cs) h' ++ (own ++ (D, lst ys) :: nw)) (fun p hp => List.mem_append_right _ (List.mem_append_left _ hp)) (List.mem_append_right _ (List.mem_append_right _ (.head _))) (fun h'' N'' => ?_) hoff (fun b hb => ?_)
      (step i ys nw h' tk' m₂ oC _ E' hi hJ hG ⟨fun c hc o e => List.mem_append_left _ (inz c (.tail _ hc) o e), F₂, Nz.append N₂, fun p hp => List.mem_append_right _ (List.mem_append_right _ (.tail _ hp)), List.mem_append_left _ hCm, List.mem_append_right _ (List.mem_append_right _ (.head _)), hoC,
        fun p hp => ⟨fun q => hoff p hp (by simp [q]), fun q => hoff p hp (by simp [q])⟩, hCD⟩)
    · refine ⟨⟨m₂, hoC.ns (N'' _ (List.mem_append_left _ hCm)).1⟩, fun c hc => ?_⟩
      obtain ⟨o, e, r⟩ := hc₂ c hc
      exact ⟨o, (N'' _ (List.mem_append_left _ (inz c (.tail _ hc) o e))).1, r⟩
    · rcases List.mem_append.mp hb with hb | hb
      · rcases List.mem_cons.mp hb with rfl | hb
        · exact ⟨_, List.mem_append_right _ (List.mem_append_right _ (.head _))⟩
        · rcases List.mem_cons.mp hb with rfl | hb
          · exact ⟨_, List.mem_append_left _ hCm⟩
          · obtain ⟨o, e, r⟩ := hc₂ b hb
            exact ⟨o, List.mem_append_left _ (inz b (.tail _ hb) o e)⟩
      · obtain ⟨o, ho⟩ := S.objs _ _ hst b hb
        exact ⟨o, List.mem_append_right _ (List.mem_append_left _ (hown b (S.walk.sub _ hb) (S.new b hb) o ho))⟩
  · rintro h tk ys nw hJ F' ⟨⟨m', hn'⟩, _⟩ N' hoff
    exact fin h tk ys nw m' hJ F' hn' N' fun p hp => ⟨fun q => hoff p hp (by simp [q]), fun q => hoff p hp (by simp [q])⟩
end
end Mine
end
section
open PySem PySem.W PyProof.Rows PySem.Calls PySem.Spec PyProof.V PyProof.Rows.LCg
set_option Elab.async false
set_option maxRecDepth 100000
set_option maxHeartbeats 2000000
set_option linter.unusedVariables false
namespace Mine
section
variable {prog : Program} {w : World} {A : Around} {E : Value → Shared → Prop} {s : Shared} {h₀ : Heap} {L : Addr} {m : Str → Option Value} {env : Env}
theorem newFn {M : Model} {scope : Scope} {globals builtins : Addr} {cl : List (Str × Addr)} {qual : Str} {func : Option Addr} {code : Value} {outer : Env} {Q : Env → Shared → Prop}
    (h : Q (newEnv scope s.heap.objs.size globals (cellsFrom (s.heap.objs.size + 1) scope.names cl) qual func code (some outer) builtins) { s with heap := pushCells (s.heap.push { cls := .type "dict", data := .dict #[] }) scope.names }) :
    wpAny M A (newFunctionEnv scope globals cl [] qual func code (some outer) builtins) Q E s := by
  simp only [newFunctionEnv, Option.isSome_some, if_true]
  refine wpAny_bind (wpAny_alloc ?_)
  refine wpAny_bind (wpAny_layCells _ (fun name kind cells => by cases hkc : kind == NameKind.cell <;> simp [hkc]) _ _ _ _ ?_)
  rw [show ({ s with heap := s.heap.push { cls := .type "dict", data := .dict #[] } } : Shared).heap.objs.size = s.heap.objs.size + 1 from Heap.size_push ..]
  rw [List.forIn_nil]
  exact wpAny_bind (wpAny_pure (wpAny_pure h))
def LcGo (prog : Program) (w : World) (A : Around) (h₀ : Heap) (L : Addr) (m : Str → Option Value) (elt target : PySem.Expr) (tst : Option PySem.Expr) (ce : Addr → Env) (cs : Addr → List Addr) (K : Shared → Addr → List (Addr × Obj) → Prop) (it : Value) (s₂ : Shared) : Prop :=
  ∃ (n : Nat) (P : Nat → Value → Heap → Prop) (nw₀ : List (Addr × Obj)) (I : Addr) (fp wr : List Addr) (Md : Nat → Value → Heap → Prop) (St : Nat → Heap → Prop) (G : Addr → Nat → (Str → Option Value) → Heap → Prop) (J : Nat → List Value → List (Addr × Obj) → Prop),
    SrcOk prog w A h₀ L m target n P nw₀ it s₂ I fp wr Md St ∧ n ≤ sizeLine ∧ J 0 [] nw₀ ∧ (∀ C, Binds prog w A h₀ L target (ce C) (cs C) (fun i v h => P i v h ∧ ∃ ys nw, J i ys nw ∧ News h₀ L h nw) (G C)) ∧
    (∀ C D i ys nw h tk m₂ oC led (E' : Value → Shared → Prop), i < n → J i ys nw → G C i m₂ h → CGround h₀ L m ys nw C D (cs C) oC m₂ led h → CTurn prog w A h₀ L m tst elt s₂ J i ys nw (ce C) led E' { s₂ with heap := h, toks := tk }) ∧
    (∀ D ys nw, J n ys nw → (∀ p ∈ nw, p.1 ≠ D) → (∀ p ∈ nw₀, p.1 < D) → K s₂ D ((D, lst ys) :: nw))
def LcE (h₀ : Heap) (L : Addr) (m : Str → Option Value) (Q : Value → Shared → Prop) (s₂ : Shared) (D : Addr) (led : List (Addr × Obj)) : Prop := ∀ h tk, Fr h₀ L h m → News h₀ L h led → Q (.ref D) { s₂ with heap := h, toks := tk }
def LcA (h₀ : Heap) (L : Addr) (m : Str → Option Value) (y : Str) (Q : Flow → Shared → Prop) (s₂ : Shared) (D : Addr) (led : List (Addr × Obj)) : Prop := ∀ h tk, Fr h₀ L h (fun z => if z = y then some (.ref D) else m z) → News h₀ L h led → Q .next { s₂ with heap := h, toks := tk }
theorem lc_block {elt target iter : PySem.Expr} {tst : Option PySem.Expr} {scope : Scope} {cl : List (Str × Addr)} {pos : Pos} {s₂ : Shared} {it : Value} {RR : Value → Addr → Result → Shared → Prop} {K : Shared → Addr → List (Addr × Obj) → Prop} {ce : Addr → Env} {cs : Addr → List Addr} (F₀ : Fr h₀ L s.heap m)
    (hce : ∀ C, compEnvC scope (cellsFrom (C + 1) scope.names cl) C env = ce C) (hcs : ∀ C h, h.objs.size = C + 1 → (∀ c ∈ cs C, C < c ∧ ∃ o, (pushCells h scope.names).get? c = some o ∧ ∃ v, o.data = .cell v))
    (h : LcGo prog w A h₀ L m elt target tst ce cs K it s₂)
    (hRR : ∀ D C h tk m' led, h₀.get? C = none → C ≠ L → h.Ns C m' → Fr h₀ L h m → News h₀ L h led → (∀ p ∈ led, p.1 ≠ C) → K s₂ D led → RR (.ref D) C (.ok .next) { s₂ with heap := h, toks := tk }) :
    wpAny (model prog w) A (newList []) (fun acc s₃ => wpAny (model prog w) A (newFunctionEnv scope env.globals cl [] env.qual none .none (some env)) (fun cenv s₄ =>
      codeAny (model prog w) A (.compStart (.ListComp elt [⟨target, iter, tst.toList, 0⟩] scope pos) 0 it acc { cenv with scope := relabel scope env }) (RR acc cenv.locals) s₄) E s₃) E s₂ := by
  obtain ⟨n, P, nw₀, I, fp, wr, Md, St, G, J, S, hsz, hJ0, hB, step, fin⟩ := h
  obtain rfl := S.isRef
  refine wpAny_newObj_type (newFn ?_)
  dsimp only
  generalize hH2 : s₂.heap.push { cls := .type "list", dict := none, data := .seq ([] : List Value).toArray } = H2
  have hC : H2.objs.size = s₂.heap.objs.size + 1 := by rw [← hH2, Heap.size_push]
  have hDC : H2.objs.size ≠ s₂.heap.objs.size := by rw [hC]; exact Nat.ne_of_gt (Nat.lt_succ_self _)
  have hDle : s₂.heap.objs.size ≤ H2.objs.size := by rw [hC]; exact Nat.le_succ _
  have he : ({ newEnv scope H2.objs.size env.globals (cellsFrom (H2.objs.size + 1) scope.names cl) env.qual none .none (some env) builtinsNs with scope := relabel scope env } : Env) = ce H2.objs.size := by rw [← hce]; rfl
  have old : ∀ b o, s₂.heap.get? b = some o → (pushCells (H2.push { cls := .type "dict", data := .dict #[] }) scope.names).get? b = some o := fun b o e => pushCells_keeps _ _ b o (Heap.get?_push_of_some _ (hH2 ▸ Heap.get?_push_of_some _ e))
  have hns : (pushCells (H2.push { cls := .type "dict", data := .dict #[] }) scope.names).Ns H2.objs.size (fun _ => none) := (Heap.Ns.new H2 (.type "dict")).keeps (pushCells_keeps _ _)
  have hacc : (pushCells (H2.push { cls := .type "dict", data := .dict #[] }) scope.names).get? s₂.heap.objs.size = some (lst []) := pushCells_keeps _ _ _ _ (Heap.get?_push_of_some _ (hH2 ▸ Heap.get?_push_size _ rfl))
  have cells := hcs H2.objs.size (H2.push { cls := .type "dict", data := .dict #[] }) (Heap.size_push ..)
  have fresh : ∀ a, s₂.heap.objs.size ≤ a → h₀.get? a = none := fun a ha => by
    cases e : h₀.get? a with
    | none => rfl
    | some o' => exact absurd (Heap.lt_size (S.fr.keep a o' e)) (Nat.not_lt.mpr ha)
  show codeAny _ _ (.compStart _ 0 _ (.ref s₂.heap.objs.size) ({ newEnv scope H2.objs.size env.globals (cellsFrom (H2.objs.size + 1) scope.names cl) env.qual none .none (some env) builtinsNs with scope := relabel scope env } : Env)) (RR (.ref s₂.heap.objs.size) H2.objs.size) _
  rw [he]
  refine comp_run (s := { s₂ with heap := pushCells (H2.push { cls := .type "dict", data := .dict #[] }) scope.names }) (C := H2.objs.size) (D := s₂.heap.objs.size) (cs := cs H2.objs.size) S J (hB _) hsz (by rw [← hce]; rfl) hDle (Nat.le_refl _) hDC
    (fun c hc => ⟨Nat.le_of_lt (Nat.lt_of_le_of_lt hDle (cells c hc).1), Nat.ne_of_gt (cells c hc).1, Nat.ne_of_gt (Nat.lt_of_le_of_lt hDle (cells c hc).1)⟩) (fun c hc => (cells c hc).2) old hns hacc hJ0 ?_ ?_
  · exact fun i ys nw h tk m₂ oC led E' hi hj hg hG => step _ _ i ys nw h tk m₂ oC led E' hi hj hg hG
  · intro h tk ys nw m' hj F' hn' N' hoff
    refine hRR _ _ h tk m' _ (fresh _ hDle) (Nat.ne_of_gt (Nat.lt_of_lt_of_le S.fr.ns.lt hDle)) hn' F' N' (fun p hp => ?_) (fin _ ys nw hj (fun p hp => (hoff p hp).2) (fun p hp => Heap.lt_size (S.nws p hp).1))
    rcases List.mem_cons.mp hp with rfl | hp
    · exact Ne.symm hDC
    · exact (hoff p hp).1
theorem lc_eval {elt target iter : PySem.Expr} {tst : Option PySem.Expr} {scope : Scope} {cl : List (Str × Addr)} {pos : Pos} {Q : Value → Shared → Prop} {ce : Addr → Env} {cs : Addr → List Addr} (F₀ : Fr h₀ L s.heap m)
    (hclos : closureFor scope env = pure cl) (hkind : scope.kind = .function) (hnames : ∀ z ∈ scope.names, z.2 = .local → scope.names.lookup z.1 = some .local)
    (hce : ∀ C, compEnvC scope (cellsFrom (C + 1) scope.names cl) C env = ce C) (hcs : ∀ C h, h.objs.size = C + 1 → (∀ c ∈ cs C, C < c ∧ ∃ o, (pushCells h scope.names).get? c = some o ∧ ∃ v, o.data = .cell v))
    (h : wpAny (model prog w) A (eval iter env) (fun xv s₁ => wpAny (model prog w) A (pyIter xv) (fun it s₂ => LcGo prog w A h₀ L m elt target tst ce cs (LcE h₀ L m Q) it s₂) E s₁) E s)
    (hs : ∀ x, foldedSetIterable iter env x = pure x := by intro _; rfl) :
    wpAny (model prog w) A (eval (.ListComp elt [⟨target, iter, tst.toList, 0⟩] scope pos) env) Q E s := by
  rw [eval_ListComp]
  refine wpAny_comprehension_free (use := none) rfl hs hclos hkind hnames (wpAny_mono h (fun xv s₁ h₁ => wpAny_mono h₁ (fun it s₂ h₂ => ?_) fun _ _ e => e) fun _ _ e => e)
  exact lc_block (RR := fun acc C => compPost (model prog w) A E none Q acc C) F₀ hce hcs h₂ fun D C h tk m' led hC0 hCL hn F' N' off k => ⟨m', hn, fun h' hs' => k h' _ (F'.change hs' hCL hC0) fun p hp => ⟨hs'.extBut _ _ (off p hp) (N' p hp).1, (N' p hp).2⟩⟩
theorem lc_assign {elt target iter : PySem.Expr} {tst : Option PySem.Expr} {scope : Scope} {cl : List (Str × Addr)} {pos spos py : Pos} {y : Str} {Q : Flow → Shared → Prop} {ce : Addr → Env} {cs : Addr → List Addr} (F₀ : Fr h₀ L s.heap m) (hLe : env.locals = L)
    (hsw : swapsWith (.ListComp elt [⟨target, iter, tst.toList, 0⟩] scope pos) (some (.Name y py)) spos.line env = pure true)
    (hclos : closureFor scope env = pure cl) (hkind : scope.kind = .function) (hnames : ∀ z ∈ scope.names, z.2 = .local → scope.names.lookup z.1 = some .local)
    (hce : ∀ C, compEnvC scope (cellsFrom (C + 1) scope.names cl) C env = ce C) (hcs : ∀ C h, h.objs.size = C + 1 → (∀ c ∈ cs C, C < c ∧ ∃ o, (pushCells h scope.names).get? c = some o ∧ ∃ v, o.data = .cell v))
    (hy : env.kindOf y = some .local) (hp : (env.scope.kind == .class || (env.scope.kind == .module && env.locals != env.globals)) = false)
    (h : wpAny (model prog w) A (eval iter env) (fun xv s₁ => wpAny (model prog w) A (pyIter xv) (fun it s₂ => LcGo prog w A h₀ L m elt target tst ce cs (LcA h₀ L m y Q) it s₂) E s₁) E s)
    (hs : ∀ x, foldedSetIterable iter env x = pure x := by intro _; rfl) :
    wpAny (model prog w) A (exec (.Assign [.Name y py] (.ListComp elt [⟨target, iter, tst.toList, 0⟩] scope pos) spos) env) Q E s := by
  subst hLe
  rw [exec_Assign_Name_used _ _ _ _ hsw]
  refine wpAny_bind (wpAny_standAt (wpAny_bind ?_))
  show wpAny _ A (do let _ ← comprehension (.ListComp elt [⟨target, iter, tst.toList, 0⟩] scope pos) scope env _ (newList []) false (eval iter env) (some (assign (.Name y py) env))) _ _ s
  refine wpAny_bind (wpAny_mono (wpAny_comprehension_free (use := some (assign (.Name y py) env)) (Q := fun _ s' => Q .next s') rfl hs hclos hkind hnames
    (wpAny_mono h (fun xv s₁ h₁ => wpAny_mono h₁ (fun it s₂ h₂ => ?_) fun _ _ e => e) fun _ _ e => e)) (fun _ s' hq => wpAny_pure (wpAny_pure hq)) fun _ _ e => e)
  refine lc_block (RR := fun acc C => compPost (model prog w) A E (some (assign (.Name y py) env)) (fun _ s' => Q .next s') acc C) F₀ hce hcs h₂ fun D C h' tk m' led hC0 hCL hn F' N' off k => ?_
  show wpAny _ A (assign (.Name y py) env (.ref D)) _ _ _
  refine wpAny_assign_Name (wpAny_storeName_local hy F'.ns (fun h₂ hn₂ hs₂ => ?_) hp)
  have hL₀ : h₀.get? env.locals = none := Heap.get?_none_of_le F'.above
  have F₂ : Fr h₀ env.locals h₂ (fun z => if z = y then some (.ref D) else m z) := ⟨hn₂, fun b o e => hs₂.extBut b o (fun q => by rw [q, hL₀] at e; cases e) (F'.keep b o e), F'.above⟩
  refine ⟨m', hn.sameBut hs₂ hCL, fun h'' hs'' => k h'' _ (F₂.change hs'' hCL hC0) (fun p hp => ?_)⟩
  have z : h₂.get? p.1 = some p.2 := hs₂.extBut _ _ (N' p hp).2.1 (N' p hp).1
  exact ⟨hs''.extBut _ _ (off p hp) z, (N' p hp).2⟩
theorem src_list {target : PySem.Expr} {ax : Addr} {vs : List Value} {k : Nat} {nw : List (Addr × Obj)} (hh : A.handled = none) (F : Fr h₀ L s.heap m) (N : News h₀ L s.heap nw) (hm : (ax, listOf vs.toArray k) ∈ nw) {Q : Value → Shared → Prop}
    (h : ∀ I h' Md St, SrcOk prog w A h₀ L m target vs.length (fun i v _ => vs[i]? = some v) nw (.ref I) { s with heap := h' } I [I, ax] [I] Md St → Q (.ref I) { s with heap := h' }) : wpAny (model prog w) A (pyIter (.ref ax)) Q E s := by
  have hl : s.heap.IsList ax vs.toArray := News.isList N hm
  have hlt : ax < s.heap.objs.size := Heap.lt_size (N _ hm).1
  refine wpAny_pyIter_list hl (h s.heap.objs.size _ (fun i v h => vs.toArray[i]? = some v ∧ (h.IsListIter s.heap.objs.size ax (i + 1) ∧ h.IsList ax vs.toArray)) (fun i h => h.IsListIter s.heap.objs.size ax i ∧ h.IsList ax vs.toArray) ?_)
  have W := Walks.list (prog := prog) (w := w) hh s.heap.objs.size ax (Nat.ne_of_lt hlt) vs.toArray
  have W2 := KTurns.ofWalks (target := target) W fun i v s Q E st q => letGo_listiter st.1 q
  refine ⟨rfl, ?_, W.self 0, fun i h st b hb => ?_, fun b hb => ?_, fun hL => ?_, fun b hb => ?_, fun p hp hI => ?_, ?_, F.push _, fun p hp => ⟨Heap.get?_push_of_some _ (N p hp).1, (N p hp).2⟩⟩
  · simpa using W2
  · rw [List.mem_singleton.mp hb]
    obtain ⟨o, e, _⟩ := st.1
    exact ⟨o, e⟩
  · show b < (s.heap.push _).objs.size
    rw [Heap.size_push]
    rcases List.mem_cons.mp hb with rfl | hb
    · exact Nat.lt_succ_self _
    · rw [List.mem_singleton.mp hb]; exact Nat.lt_succ_of_lt hlt
  · rcases List.mem_cons.mp hL with e | hL
    · exact absurd F.ns.lt (e ▸ Nat.lt_irrefl _)
    · exact (N _ hm).2.1 (List.mem_singleton.mp hL).symm
  · rw [List.mem_singleton.mp hb]; exact next_is_new F
  · exact absurd (Heap.lt_size (N p hp).1) ((List.mem_singleton.mp hI) ▸ Nat.lt_irrefl _)
  · exact ⟨⟨_, Heap.get?_push_size _ rfl, rfl, rfl⟩, hl.at fun o e => Heap.get?_push_of_some _ e⟩
theorem lc_list {elt target : PySem.Expr} {tst : Option PySem.Expr} {ce : Addr → Env} {cs : Addr → List Addr} {K : Shared → Addr → List (Addr × Obj) → Prop} {ax : Addr} {vs : List Value} {k : Nat} {nw : List (Addr × Obj)}
    (hh : A.handled = none) (F : Fr h₀ L s.heap m) (N : News h₀ L s.heap nw) (hm : (ax, listOf vs.toArray k) ∈ nw) (hsz : vs.length ≤ sizeLine)
    (G : Addr → Nat → (Str → Option Value) → Heap → Prop) (J : Nat → List Value → List (Addr × Obj) → Prop) (hJ0 : J 0 [] nw)
    (hB : ∀ C, Binds prog w A h₀ L target (ce C) (cs C) (fun i v h => vs[i]? = some v ∧ ∃ ys nw, J i ys nw ∧ News h₀ L h nw) (G C))
    (step : ∀ h₂ C D i ys nw' h tk m₂ oC led (E' : Value → Shared → Prop), i < vs.length → J i ys nw' → G C i m₂ h → CGround h₀ L m ys nw' C D (cs C) oC m₂ led h → CTurn prog w A h₀ L m tst elt { s with heap := h₂ } J i ys nw' (ce C) led E' { s with heap := h, toks := tk })
    (fin : ∀ h₂ D ys nw', J vs.length ys nw' → (∀ p ∈ nw', p.1 ≠ D) → (∀ p ∈ nw, p.1 < D) → K { s with heap := h₂ } D ((D, lst ys) :: nw')) :
    wpAny (model prog w) A (pyIter (.ref ax)) (fun it s₂ => LcGo prog w A h₀ L m elt target tst ce cs K it s₂) E s :=
  src_list (target := target) hh F N hm fun I h' Md St S => ⟨_, _, _, I, _, _, Md, St, G, J, S, hsz, hJ0, hB, step h', fin h'⟩
theorem binds_cell {x : Str} {px : Pos} {cenv : Env} {c : Addr} {P : Nat → Value → Heap → Prop} {R : Nat → Value → Prop} (hk : cenv.scope.kind = .function) (hx : cenv.kindOf x = some .cell) (hc : cenv.cells.lookup x = some c) (hne : cenv.locals ≠ c)
    (hP : ∀ i v h, P i v h → R i v) : Binds prog w A h₀ L (.Name x px) cenv [c] P (fun i m₂ h => ∃ o v, h.get? c = some o ∧ o.data = .cell (some v) ∧ R i v) := by
  intro i v s mc Q E hv hn hcell k
  obtain ⟨o, ho, v₀, hd⟩ := hcell c (.head _)
  refine wpAny_assign_Name (wpAny_storeName_cell hk hx hc (show s.heap.IsCell c v₀ from ⟨o, ho, hd⟩) fun h' hc' hs' => ?_)
  obtain ⟨o', ho', hd'⟩ := hc'
  refine k h' _ mc (hn.sameBut hs' hne) ⟨o', v, ho', hd', hP _ _ _ hv⟩ (fun c' h => ?_) fun b o hb hb' e => hs'.extBut b o (fun q => hb' (q ▸ .head _)) e
  rw [List.mem_singleton.mp h]
  exact ⟨o', ho', _, hd'⟩
end
end Mine
end
section
open PySem PySem.W PyProof.Rows PySem.Calls PySem.Spec PyProof.V PyProof.Rows.LCg
set_option Elab.async false
set_option maxRecDepth 100000
set_option maxHeartbeats 2000000
set_option linter.unusedVariables false
namespace Mine
section
variable {prog : Program} {w : World} {A : Around} {E : Value → Shared → Prop} {s : Shared} {h₀ : Heap} {L : Addr} {m : Str → Option Value} {env : Env}
theorem CStep.same {led nw : List (Addr × Obj)} {J : List (Addr × Obj) → Prop} {h : Heap} {tk : Nat} (F : Fr h₀ L h m) (N : News h₀ L h led) (hs : ∀ p ∈ nw, p ∈ led) (hj : J nw) : CStep h₀ L m s led nw J { s with heap := h, toks := tk } :=
  ⟨h, tk, nw, rfl, F, N, fun p hp => N p (hs p hp), fun p hp => .inl hp, hj⟩
/-- a loop by what holds after each turn -/
theorem items_ind {target : PySem.Expr} {body : List Stmt} {Q : Flow → Shared → Prop} {ws : List (Addr × String)} {keep : List (Addr × Obj)} (J : Nat → (Str → Option Value) → List (Addr × Obj) → Prop) (xs : List Itm)
    (step : ∀ i a v m₁ nw h tk, xs[i]? = some a → a.Is v h → J i m₁ nw → SubL keep nw → Fr h₀ env.locals h m₁ → AllObj ws (fun its => News h₀ env.locals h (its ++ nw) →
      wpAny (model prog w) A (assign target env v) (fun _ s₂ => wpAny (model prog w) A (execs body env) (UnrPostW h₀ env.locals { s with heap := h, toks := tk } its (fun m' n' => SubL keep n' ∧ J (i + 1) m' n') Q) E s₂) E { s with heap := h, toks := tk }))
    (fin : ∀ m₁ nw h tk, J xs.length m₁ nw → Fr h₀ env.locals h m₁ → News h₀ env.locals h nw → Q .next { s with heap := h, toks := tk }) {m₀ : Str → Option Value} {news : List (Addr × Obj)} (hJ : J 0 m₀ news) (hk : SubL keep news) :
    ItemsRest prog w A E h₀ env target body Q s ws keep xs m₀ news := by
  have key : ∀ (j i : Nat) m₁ nw, i + j = xs.length → J i m₁ nw → SubL keep nw → ItemsRest prog w A E h₀ env target body Q s ws keep (xs.drop i) m₁ nw := by
    intro j
    induction j with
    | zero =>
      intro i m₁ nw hi hJ hk
      have e : i = xs.length := by omega
      subst e
      rw [List.drop_length]
      exact fun h tk F N => fin m₁ nw h tk hJ F N
    | succ j ih =>
      intro i m₁ nw hi hJ hk
      have hlt : i < xs.length := by omega
      rw [List.drop_eq_getElem_cons hlt]
      intro v h tk hv F
      have st := step i _ v m₁ nw h tk (List.getElem?_eq_getElem hlt) hv hJ hk F
      have mono : ∀ (ws : List (Addr × String)) (k k' : List (Addr × Obj) → Prop), (∀ its, k its → k' its) → AllObj ws k → AllObj ws k' := by
        intro ws
        induction ws with
        | nil => exact fun k k' hk h => hk _ h
        | cons x r ihw => exact fun k k' hk h o ho => ihw _ _ (fun its hh => hk _ hh) (h o ho)
      refine mono _ _ _ (fun its hh N => wpAny_mono (hh N) (fun _ s₂ h₂ => wpAny_mono h₂ (fun f s₃ h₃ => ?_) fun _ _ e => e) fun _ _ e => e) st
      have conv : ∀ s₃, UnrEndW h₀ env.locals { s with heap := h, toks := tk } its (fun m' n' => SubL keep n' ∧ J (i + 1) m' n') s₃ → UnrEndW h₀ env.locals { s with heap := h, toks := tk } its (fun m' n' => SubL keep n' ∧ ItemsRest prog w A E h₀ env target body Q s ws keep (xs.drop (i + 1)) m' n') s₃ := by
        rintro s₃ ⟨h', tk', m', n', e, F', N', off, hk', hJ'⟩
        exact ⟨h', tk', m', n', e, F', N', off, hk', ih (i + 1) m' n' (by omega) hJ' hk'⟩
      cases f with
      | ret v => exact h₃
      | brk => exact h₃
      | next => exact conv _ h₃
      | cont => exact conv _ h₃
  have := key xs.length 0 m₀ news (by omega) hJ hk
  simpa using this
theorem app_at {l : Addr} {vs : List Value} {n : Nat} {rest : List (Addr × Obj)} {y : Value} {Q : Value → Shared → Prop} (F : Fr h₀ L s.heap m) (N : News h₀ L s.heap ((l, listOf vs.toArray n) :: rest)) (hne : ∀ p ∈ rest, p.1 ≠ l) (hv : vs.length ≤ 64)
    (h : ∀ h', Fr h₀ L h' m → News h₀ L h' ((l, listOf (vs ++ [y]).toArray (n + 1)) :: rest) → Q .none { s with heap := h' }) :
    wpAny (model prog w) A (call (.builtin "list.append") [.ref l, y]) Q E s := by
  refine append_K F N (.head hne) (fun h' F' N' => h h' F' (by simpa using N')) ?_
  rw [sizeLine_eq, List.size_toArray]; omega
end
/-- the end condition of a turn is kept as a name: it is long, and every step would write it anew -/
theorem name_post {α β : Type} {M : Model} {A : Around} {t : Sem α} {u : α → Sem β} {Q : β → Shared → Prop} {E : Value → Shared → Prop} {s : Shared}
    (h : ∀ Q', Q' = Q → wpAny M A t (fun x s' => wpAny M A (u x) Q' E s') E s) : wpAny M A t (fun x s' => wpAny M A (u x) Q E s') E s := h Q rfl
end Mine
end
section
open PySem PySem.W PyProof.Rows PySem.Calls PySem.Spec PyProof.V
set_option Elab.async false
set_option maxRecDepth 100000
set_option maxHeartbeats 2000000
namespace Mine
def keyStep (ks : List Str) : Rd → List Str
  | .ok k _ => if k ∈ ks then ks else ks ++ [k]
  | .bad _ => ks
def keysOf (rs : List Rd) : List Str := rs.foldl keyStep []
def valStep (k : Str) : Rd → Option Str
  | .ok k' v => if k' = k then some v else none
  | .bad _ => none
def valsOf (rs : List Rd) (k : Str) : List Str := rs.filterMap (valStep k)
def lastOf (rs : List Rd) (k : Str) : Str := (valsOf rs k).getLast?.getD (Str.ofString "")
def pairOf (rs : List Rd) (k : Str) : PyData × PyData := (.str k, .str (lastOf rs k))
theorem keysOf_snoc (a : List Rd) (r : Rd) : keysOf (a ++ [r]) = keyStep (keysOf a) r := by simp [keysOf]
theorem valsOf_append (a b : List Rd) (k : Str) : valsOf (a ++ b) k = valsOf a k ++ valsOf b k := List.filterMap_append ..
theorem same_str (a b : Str) : PySem.Spec.same (.str a) (.str b) = decide (a = b) := by
  by_cases h : a = b
  · subst h; simp [PySem.Spec.same]
  · simp [PySem.Spec.same, h]
theorem lastOf_snoc (a : List Rd) (k k' v : Str) : lastOf (a ++ [.ok k' v]) k = if k' = k then v else lastOf a k := by
  unfold lastOf
  rw [valsOf_append]
  by_cases h : k' = k
  · simp [valsOf, valStep, h]
  · simp [valsOf, valStep, h]
theorem keysOf_mem (rs : List Rd) (k : Str) : k ∈ keysOf rs ↔ valsOf rs k ≠ [] := by
  suffices H : ∀ n (rs : List Rd), rs.length = n → (k ∈ keysOf rs ↔ valsOf rs k ≠ []) from H _ rs rfl
  intro n
  induction n with
  | zero => intro rs h; rw [List.length_eq_zero_iff.mp h]; simp [keysOf, valsOf]
  | succ n ih =>
    intro rs h
    obtain ⟨a, r, rfl⟩ : ∃ a r, rs = a ++ [r] := ⟨rs.dropLast, rs.getLast (by intro e; rw [e] at h; simp at h), (List.dropLast_concat_getLast _).symm⟩
    have := ih a (by simpa using h)
    rw [keysOf_snoc, valsOf_append]
    cases r with
    | bad b => simpa [keyStep, valsOf, valStep] using this
    | ok k' v =>
      have hs : valsOf [Rd.ok k' v] k = if k' = k then [v] else [] := by
        unfold valsOf
        by_cases e : k' = k <;> simp [valStep, e]
      rw [hs]
      show k ∈ (if k' ∈ keysOf a then keysOf a else keysOf a ++ [k']) ↔ _
      by_cases e : k' = k
      · subst e
        by_cases hm : k' ∈ keysOf a
        · simp [hm]
        · simp [hm]
      · have e' : ¬ k = k' := fun q => e q.symm
        rw [if_neg e, List.append_nil, ← this]
        by_cases hm : k' ∈ keysOf a
        · simp [hm]
        · simp [hm, e']
theorem pairs_keys (rs : List Rd) : pairs rs = (keysOf rs).map (pairOf rs) := by
  suffices H : ∀ n (rs : List Rd), rs.length = n → pairs rs = (keysOf rs).map (pairOf rs) from H _ rs rfl
  intro n
  induction n with
  | zero => intro rs h; rw [List.length_eq_zero_iff.mp h]; rfl
  | succ n ih =>
    intro rs h
    obtain ⟨a, r, rfl⟩ : ∃ a r, rs = a ++ [r] := ⟨rs.dropLast, rs.getLast (by intro e; rw [e] at h; simp at h), (List.dropLast_concat_getLast _).symm⟩
    have h1 := ih a (by simpa using h)
    rw [pairs_snoc, keysOf_snoc]
    cases r with
    | bad b =>
      simp only [putR, keyStep]
      rw [h1]
      refine List.map_congr_left fun k _ => ?_
      unfold pairOf lastOf
      rw [valsOf_append]
      simp [valsOf, valStep]
    | ok k v =>
      simp only [putR, keyStep]
      unfold putD
      have hany : ((pairs a).any fun p => PySem.Spec.same p.1 (.str k)) = decide (k ∈ keysOf a) := by
        rw [h1, List.any_map]
        have : ((fun p : PyData × PyData => PySem.Spec.same p.1 (.str k)) ∘ pairOf a) = fun x => decide (x = k) := by
          funext x
          simp only [Function.comp, pairOf, same_str]
        rw [this]
        by_cases hm : k ∈ keysOf a
        · rw [decide_eq_true hm]; exact List.any_eq_true.mpr ⟨k, hm, decide_eq_true rfl⟩
        · rw [decide_eq_false hm]
          refine List.any_eq_false.mpr fun x hx => ?_
          have : x ≠ k := fun e => hm (e ▸ hx)
          simp [this]
      rw [hany]
      by_cases hm : k ∈ keysOf a
      · rw [if_pos (decide_eq_true hm), if_pos hm, h1, List.map_map]
        refine List.map_congr_left fun x _ => ?_
        simp only [Function.comp, pairOf, same_str, lastOf_snoc]
        by_cases e : x = k
        · subst e; simp
        · have e' : ¬ k = x := fun q => e q.symm
          simp [e, e']
      · rw [if_neg (by simp [hm]), if_neg hm, h1, List.map_append]
        congr 1
        · refine List.map_congr_left fun x hx => ?_
          have e' : ¬ k = x := fun q => hm (q ▸ hx)
          simp [pairOf, lastOf_snoc, e']
        · simp [pairOf, lastOf_snoc]
theorem pairs_dat (rs : List Rd) : (pairs rs).map pairDat = (keysOf rs).map fun k => Dat.tuple [.str k, .str (lastOf rs k)] := by
  rw [pairs_keys, List.map_map]
  rfl
theorem keysOf_length (rs : List Rd) : (keysOf rs).length ≤ rs.length := by
  suffices h : ∀ (l : List Rd) ks, (l.foldl keyStep ks).length ≤ ks.length + l.length by simpa [keysOf] using h rs []
  intro l
  induction l with
  | nil => intro ks; simp
  | cons x r ih =>
    intro ks
    have h1 := ih (keyStep ks x)
    have h2 : (keyStep ks x).length ≤ ks.length + 1 := by
      cases x with
      | bad => simp [keyStep]
      | ok k v => unfold keyStep; dsimp only; split <;> simp
    simp only [List.foldl_cons, List.length_cons]
    omega
end Mine
end
section
open PySem PySem.W PyProof.Rows PySem.Calls PySem.Spec PyProof.V PyProof.Rows.LCg
set_option Elab.async false
set_option maxRecDepth 100000
set_option maxHeartbeats 8000000
set_option pp.deepTerms false
set_option pp.proofs false
namespace Mine
local macro_rules | `(tactic| k_room) => `(tactic| ktr_room)
local macro_rules | `(tactic| k_mem) => `(tactic| first | assumption | (refine List.mem_cons_of_mem _ ?_; k_mem))
def cutR (rs : List Rd) (lo hi : Nat) : List Rd := (rs.drop lo).take (hi - lo)
def badsD (rs : List Rd) : List Dat := rs.filterMap fun | .bad b => some (.str (Str.ofString (errS b))) | .ok _ _ => none
theorem badsD_append (a b : List Rd) : badsD (a ++ b) = badsD a ++ badsD b := List.filterMap_append ..
theorem badsD_ok (rs : List Rd) : ∀ d ∈ badsD rs, kqdOk 8 d = true := by
  intro d hd
  obtain ⟨r, _, h⟩ := List.mem_filterMap.mp hd
  cases r with
  | bad b =>
    cases h
    cases b <;> decide +kernel
  | ok k v => cases h
theorem badsD_some {rs : List Rd} {b : Bool} (h : firstBad rs = some b) : ∃ r, badsD rs = .str (Str.ofString (errS b)) :: r := by
  induction rs with
  | nil => cases h
  | cons x r ih =>
    cases x with
    | bad c => cases h; exact ⟨_, rfl⟩
    | ok k v => exact ih h
theorem badsD_none {rs : List Rd} (h : firstBad rs = none) : badsD rs = [] := by
  induction rs with
  | nil => rfl
  | cons x r ih =>
    cases x with
    | bad c => cases h
    | ok k v => exact ih h
theorem allLt_mem {d : Nat} : ∀ {l : List (Addr × Obj)}, AllLt d l → ∀ q ∈ l, q.1 < d
  | [], _, _, hq => nomatch hq
  | _ :: _, h, q, hq => by
    rcases List.mem_cons.mp hq with e | e
    · rw [e]; exact h.1
    · exact allLt_mem h.2 q e
def kM (K : Addr) (u : Str → Option Value) : Str → Option Value := fun y => if y = Str.ofString "keys" then some (.ref K) else u y
theorem kM_of {h₀ h : Heap} {L K : Addr} {m : Str → Option Value} (F : Fr h₀ L h m) (h1 : m (Str.ofString "keys") = some (.ref K)) : Fr h₀ L h (kM K m) := fr_eq F fun y => by
  unfold kM
  by_cases e : y = Str.ofString "keys"
  · rw [if_pos e, e]; exact h1.symm
  · rw [if_neg e]
theorem firstBad_ok {rs : List Rd} (h : firstBad rs = none) : ∀ r ∈ rs, ∃ k v, r = .ok k v := by
  induction rs with
  | nil => intro r hr; cases hr
  | cons x l ih =>
    intro r hr
    cases x with
    | bad b => cases h
    | ok k v =>
      rcases List.mem_cons.mp hr with e | e
      · exact ⟨k, v, e⟩
      · exact ih h r e
theorem key_in {rs : List Rd} {k : Str} (h : k ∈ keysOf rs) : ∃ v, Rd.ok k v ∈ rs := by
  have h1 := (keysOf_mem rs k).mp h
  obtain ⟨v, hv⟩ := List.exists_mem_of_ne_nil _ h1
  obtain ⟨r, hr, e⟩ := List.mem_filterMap.mp hv
  cases r with
  | bad b => cases e
  | ok k' v' =>
    have e2 : (if k' = k then some v' else none) = some v := e
    by_cases q : k' = k
    · exact ⟨v', q ▸ hr⟩
    · rw [if_neg q] at e2; cases e2
theorem keys_str {k : Str} (h : k ∈ keysL) : PyData.strOk k = true := by
  have : ∀ k ∈ keysL, PyData.strOk k = true := by decide +kernel
  exact this k h
theorem keys_dat {rs : List Rd} (hok : ∀ k v, Rd.ok k v ∈ rs → k ∈ keysL) : ∀ d ∈ (keysOf rs).map Dat.str, kqdOk 8 d = true := by
  intro d hd
  obtain ⟨k, hk, rfl⟩ := List.mem_map.mp hd
  obtain ⟨v, hv⟩ := key_in hk
  exact keys_str (hok k v hv)
theorem keys_notIn {prog : Program} {w : World} {A : Around} {E : Value → Shared → Prop} {s : Shared} {h₀ : Heap} {L K : Addr} {news : List (Addr × Obj)} {kv : List Value} {n : Nat} {ks : List Str} {x : Str} {t : Tok} {Q : Value → Shared → Prop} (N : News h₀ L s.heap news) (hm : (K, listOf kv.toArray n) ∈ news) (hkv : DatAll [] kv (ks.map Dat.str)) (hks : ∀ d ∈ ks.map Dat.str, kqdOk 8 d = true) (hx : PyData.strOk x = true) (hu : A.units + 64 < cLine)
    (h1 : x ∈ ks → Q (.bool false) s) (h2 : x ∉ ks → Q (.bool true) s) : wpAny (model prog w) A (compareOp .NotIn (.str x t) (.ref K)) Q E s := by
  refine kqd_notIn (n₁ := []) N hm rfl rfl hkv (fun _ h => nomatch h) (DatIn.str (news := []) x t) (fun _ h => nomatch h) hks hx hu ?_
  by_cases q : x ∈ ks
  · have e : (Dat.str x ∈ ks.map Dat.str) = True := eq_true (List.mem_map_of_mem q)
    simp only [e, decide_true, Bool.not_true]
    exact h1 q
  · have e : (Dat.str x ∈ ks.map Dat.str) = False := eq_false fun z => by
      obtain ⟨y, hy, e⟩ := List.mem_map.mp z
      cases e
      exact q hy
    simp only [e, decide_false, Bool.not_false]
    exact h2 q
theorem last_at {zs : List Value} {vals : List Str} (h : DatAll [] zs (vals.map Dat.str)) (hne : vals ≠ []) : 1 ≤ zs.length ∧ ∃ t, zs[((-1 : Int) + (zs.length : Int)).toNat]? = some (.str (vals.getLast?.getD (Str.ofString "")) t) := by
  have hl : zs.length = vals.length := by simpa using h.length
  have h1 : 1 ≤ vals.length := by
    cases vals with
    | nil => exact absurd rfl hne
    | cons a r => simp
  refine ⟨by omega, ?_⟩
  have h2 : ((-1 : Int) + (zs.length : Int)).toNat = vals.length - 1 := by omega
  rw [h2]
  obtain ⟨v, h3, h4⟩ := h.get (k := vals.length - 1) (by simp; omega)
  rw [h3]
  rw [List.getElem_map] at h4
  have e : vals.getLast?.getD (Str.ofString "") = vals[vals.length - 1]'(by omega) := by
    rw [List.getLast?_eq_getElem?, List.getElem?_eq_getElem (by omega)]
    rfl
  rw [e]
  cases h4
  exact ⟨_, rfl⟩
theorem back_at {prog : Program} {w : World} {A : Around} {E : Value → Shared → Prop} {s : Shared} {h₀ : Heap} {L l : Addr} {news : List (Addr × Obj)} {value slice : PySem.Expr} {vs : List Value} {n : Nat} {u : Tok} {v : Value} {Q : Value → Shared → Prop}
    (N : News h₀ L s.heap news) (hm : (l, listOf vs.toArray n) ∈ news) (h1 : 1 ≤ vs.length) (hx : vs[((-1 : Int) + (vs.length : Int)).toNat]? = some v) (h : Q v s)
    (hs : subscripted slice false (.ref l) (.int (-1) u) = operate [.ref l, .int (-1) u] (getItem (.ref l) (.int (-1) u)) := by with_unfolding_all rfl) :
    wpAny (model prog w) A (subscriptTail value slice (.ref l) (.int (-1) u)) Q E s :=
  have hl : s.heap.IsList l vs.toArray := News.isList N hm
  tail_any hl.typeIs slot_list_getitem.lookup (wpAny_getItem_list_neg hl (by decide) (by rw [List.size_toArray]; omega) (by decide) (by rw [List.size_toArray]; simpa using hx) h) hs
theorem CStep.one {h₀ h : Heap} {L : Addr} {m : Str → Option Value} {s : Shared} {led nw all : List (Addr × Obj)} {J : List (Addr × Obj) → Prop} {tk : Nat} {x : Addr × Obj} (F : Fr h₀ L h m) (N : News h₀ L h all) (hx : x ∈ all) (hled : ∀ p ∈ led, p ∈ all) (hlt : ∀ q ∈ led, q.1 < x.1) (hs : ∀ p ∈ nw, p ∈ led) (hj : J (x :: nw)) : CStep h₀ L m s led nw J { s with heap := h, toks := tk } :=
  ⟨h, tk, x :: nw, rfl, F, fun p hp => N p (hled p hp), fun p hp => N p (by
    rcases List.mem_cons.mp hp with rfl | hp
    · exact hx
    · exact hled p (hs p hp)), fun p hp => by
    rcases List.mem_cons.mp hp with rfl | hp
    · exact .inr hlt
    · exact .inl hp, hj⟩
theorem cut_sub {rs : List Rd} {lo hi : Nat} {r : Rd} (h : r ∈ cutR rs lo hi) : r ∈ rs := List.mem_of_mem_drop (List.mem_of_mem_take h)
theorem dat_cut {nw : List (Addr × Obj)} {vs : List Value} {rs : List Rd} (h : DatAll nw vs (rs.map rdDat)) (lo hi : Nat) : DatAll nw ((vs.drop lo).take (hi - lo)) ((cutR rs lo hi).map rdDat) := by
  have := (dat_take_drop (dat_take_drop h lo).2 (hi - lo)).1
  simpa [cutR, List.map_take, List.map_drop] using this
theorem isi_tup {prog : Program} {w : World} {A : Around} {E : Value → Shared → Prop} {s : Shared} {h₀ : Heap} {L b : Addr} {xs : Array Value} {n : Nat} {news : List (Addr × Obj)} {Q : Value → Shared → Prop} (N : News h₀ L s.heap news) (hm : (b, ({ cls := .type "tuple", data := .seq xs n } : Obj)) ∈ news) (h : ∀ tk, Q (.bool false) { s with toks := tk }) :
    wpAny (model prog w) A (call (.builtin "isinstance") [.ref b, .type "str"]) Q E s := PySem.IsiPair.tuple_str (N _ hm).1 rfl (h _)
local macro_rules | `(tactic| walk_at $k:str) => if k.getString ∈ ["exec Assign cons ListComp", "eval ListComp", "pyIter ref", "compareOp NotEq ref ref", "exec For Tuple Subscript cons nil", "subscriptTail", "compareOp NotIn", "call builtin:list.append", "subscriptTail ListComp", "subscriptTail ListComp UnaryOp ref int"] then `(tactic| refine wait_at ?_) else if k.getString = "UnrEndW" then `(tactic| fail) else Lean.Macro.throwUnsupported
local macro_rules | `(tactic| walk_at "call builtin:isinstance") => `(tactic| (k_here; k_dflt (refine isi_tup (by k_asm) (by k_mem) ?_; intro tk')))
theorem rd_at {nw : List (Addr × Obj)} {cv : List Value} {rs : List Rd} {i : Nat} {v : Value} (h : DatAll nw cv (rs.map rdDat)) (hi : cv[i]? = some v) : ∃ r, rs[i]? = some r ∧ DatIn nw v (rdDat r) ∧ rs.take (i + 1) = rs.take i ++ [r] := by
  have h1 : i < (rs.map rdDat).length := by rw [← h.length]; exact (List.getElem?_eq_some_iff.mp hi).1
  obtain ⟨v', h2, h3⟩ := h.get h1
  rw [hi] at h2
  cases h2
  have h4 : i < rs.length := by simpa using h1
  refine ⟨rs[i], List.getElem?_eq_getElem h4, by simpa using h3, ?_⟩
  simp
theorem in_bad_rd {nw : List (Addr × Obj)} {v : Value} {b : Bool} (h : DatIn nw v (rdDat (.bad b))) : ∃ t, v = .str (Str.ofString (errS b)) t := by
  cases h
  exact ⟨_, rfl⟩
theorem in_ok_rd {nw : List (Addr × Obj)} {v : Value} {x y : Str} (h : DatIn nw v (rdDat (.ok x y))) : ∃ T n t u, v = .ref T ∧ (T, ({ cls := .type "tuple", data := .seq #[.str x t, .str y u] n } : Obj)) ∈ nw := by
  cases h with
  | tuple hm hd =>
    cases hd with
    | cons a r =>
      cases r with
      | cons b r =>
        cases r
        cases a
        cases b
        exact ⟨_, _, _, _, rfl, hm⟩
section
variable {w : World} {mean : ExcName → Option Value} {mg mb : Str → Option Value} {dp un : Nat} {gd : Option (List Code)} {cn : Str} {cs : Scope} {a : Addr} {ccd : Value} {cl : List (Str × Addr)} {outer : List Env} {A₀ : Around} {base h₀ : Heap} {L : Addr} {m : Str → Option Value} {news : List (Addr × Obj)} {s : Shared} {Q E : Value → Shared → Prop}
theorem due_spec {l : Addr} {vs : List Value} {n : Nat} {rs : List Rd} {lo hi : Nat} {t1 t2 : Tok}
   (B : Below A₀ base outer h₀) (F : Fr h₀ L s.heap m) (X : (hd.heap_39 w.params).In h₀) (N : News h₀ L s.heap news) (T : Top hd.view_39 LW mean mg mb h₀) (hk : cs.kind = .function)
   (hl : (l, listOf vs.toArray n) ∈ news) (hv : DatAll news vs (rs.map rdDat)) (hlen : vs.length ≤ 8) (h1 : lo ≤ hi) (h2 : hi ≤ vs.length) (hok : ∀ k v, Rd.ok k v ∈ rs → k ∈ keysL)
   (hdp : dp < recursionLimit) (hu : un + 80 < cLine)
   (bad : ∀ b h' tk' t, firstBad (cutR rs lo hi) = some b → Fr h₀ L h' m → News h₀ L h' news → Q (.str (Str.ofString (errS b)) t) { s with heap := h', toks := tk' })
   (good : ∀ b vs' tl h' tk', firstBad (cutR rs lo hi) = none → Fr h₀ L h' m → News h₀ L h' tl → (∀ p ∈ news, p ∈ tl) → (b, lst vs') ∈ tl → DatAll tl vs' ((pairs (cutR rs lo hi)).map pairDat) → Q (.ref b) { s with heap := h', toks := tk' }) :
   wpAny (model PySem.Challenge.rw_pg0107_01.row.prog w) (ktrTop dp un gd cn cs L a ccd cl outer) (call (.ref 95) [.ref l, .int lo t1, .int hi t2]) Q E s := by
  revert X; k_fill; intro X
  k_dflt (refine enter_defC [(Str.ofString "drawn", .ref l), (Str.ofString "low", .int lo t1), (Str.ofString "high", .int hi t2)] B F X N T hk (by k_is) (by k_is) (by ktr_room) (BindsTo.of_eq rfl) (by intro n x hx; simp only [List.mem_cons, List.not_mem_nil, or_false] at hx; rcases hx with rfl | rfl | rfl <;> exact .inr ⟨rfl, rfl⟩) (by decide) rfl rfl rfl ?_)
  intro g L' h₁ tk cells FG F' N' Y B' X' T' lt'
  clear F N B X T
  k_fold
  k_cells Y
  w_top off
  k_steps
  rename News g L' _ _ => lN
  rename_i o1 o2 o3 d1 d2 d3
  have lF : Fr g L' h₁ (fun _ => none) := F'
  have D1 : o1.data = .cell (some (.int hi t2)) := d1
  have D2 : o2.data = .cell (some (.int lo t1)) := d2
  have D3 : o3.data = .cell (some (.ref l)) := d3
  clear d1 d2 d3 F'
  refine Wait.mk ?_
  obtain ⟨cv, ecv⟩ : ∃ cv, cv = (vs.drop lo).take (hi - lo) := ⟨_, rfl⟩
  have cD : DatAll news cv ((cutR rs lo hi).map rdDat) := ecv ▸ dat_cut hv lo hi
  have cl8 : cv.length ≤ 8 := by rw [ecv]; simp; omega
  k_dflt (refine lc_assign (tst := some _) (ce := fun C => _) (cs := fun _ => []) lF rfl (by with_unfolding_all rfl) (by with_unfolding_all rfl) rfl (by decide) (fun C => rfl) (fun _ _ _ _ h => nomatch h) rfl rfl ?_)
  k_steps
  refine Wait.mk ?_
  k_dflt (refine cut_at' lF lN (by k_mem) (by omega) (by omega) (by omega) (by omega) ?_ (by with_unfolding_all rfl) (fun _ => rfl))
  intro W1 hA FA NA lA
  have NA' : News g L' hA ((W1, listOf cv.toArray 0) :: ([(L' + 1 + 1 + 1, o1), (L' + 1 + 1, o2), (L' + 1, o3)] ++ news)) := by rw [ecv]; exact NA
  clear NA lN lF
  k_dflt (refine lc_list rfl FA NA' (.head _) ?_ (fun C i m₂ h => ∃ v, m₂ (Str.ofString "one") = some v ∧ cv[i]? = some v) (fun i ys nw => nw = (W1, listOf cv.toArray 0) :: ([(L' + 1 + 1 + 1, o1), (L' + 1 + 1, o2), (L' + 1, o3)] ++ news) ∧ DatAll news ys (badsD ((cutR rs lo hi).take i))) ⟨rfl, .nil⟩ (fun C => binds_name (R := fun i v => cv[i]? = some v) rfl rfl (fun _ _ _ h => h.1)) ?_ ?_)
  · rw [sizeLine_eq]; omega
  · rintro hB C D i ys nw h tk m₂ oC led E' hi ⟨rfl, hJ⟩ ⟨v, hm2, hv⟩ GR
    clear FA NA'
    obtain ⟨r, hr, hd, htk⟩ := rd_at cD hv
    have hsub : ∀ p ∈ news, p ∈ led := fun p hp => GR.sub p (by simp [hp])
    have lF := GR.fr
    have lN := GR.nws
    have lC := GR.frame
    have lO := GR.ns
    unfold CTurn tstRun
    dsimp only
    cases r with
    | bad b =>
      obtain ⟨t, rfl⟩ := in_bad_rd hd
      k_steps
      refine CStep.same lF lN GR.sub ⟨rfl, ?_⟩
      rw [htk, badsD_append]
      exact hJ.append (.one (.str _ _))
    | ok x y =>
      obtain ⟨T, nT, tx, ty, rfl, hT⟩ := in_ok_rd hd
      have hT' := hsub _ hT
      k_steps
      refine CStep.same lF lN GR.sub ⟨rfl, ?_⟩
      rw [htk, badsD_append]
      simpa [badsD] using hJ
  · rintro hB D ys nw ⟨rfl, hJ⟩ off1 off2 h tk lF lN
    have hcl : (cutR rs lo hi).length = cv.length := by simpa using cD.length.symm
    rw [← hcl, List.take_length] at hJ
    k_steps
    rename Fr g L' _ _ => lF
    rename News g L' _ _ => lN
    refine Wait.mk ?_
    have hsub : ∀ p ∈ news, p ∈ ((W1, listOf cv.toArray 0) :: ([(L' + 1 + 1 + 1, o1), (L' + 1 + 1, o2), (L' + 1, o3)] ++ news)) := fun p hp => by simp [hp]
    k_dflt (refine kqd_ne lN (.tail _ (.head _)) rfl rfl hJ (fun p hp => .tail _ (.tail _ (hsub p hp))) (.head _) rfl rfl (DatAll.nil (news := [])) (fun _ h => nomatch h) (badsD_ok _) (fun _ h => nomatch h) (by ktr_units) ?_)
    cases hw : firstBad (cutR rs lo hi) with
    | some b =>
      obtain ⟨r, er⟩ := badsD_some hw
      rw [decide_eq_false (show ¬ badsD (cutR rs lo hi) = [] by rw [er]; exact List.cons_ne_nil _ _)]
      rw [er] at hJ
      cases hJ
      rename_i v vs' hr hv'
      cases hr
      k_steps
      refine Wait.mk ?_
      rename News g L' _ _ => lN
      k_dflt (refine item_at lN (.tail _ (.head _)) (by decide) (by decide) rfl ?_ (by with_unfolding_all rfl))
      k_steps
      dsimp only
      rename Fr g L' _ _ => lF
      rename News g L' _ _ => lN
      refine leaveK_ lF lN ?_
      intro kF kN
      exact bad b _ _ _ hw kF fun p hp => kN p (.tail _ (.tail _ (hsub p hp)))
    | none =>
      rw [decide_eq_true (badsD_none hw)]
      k_steps
      refine Wait.mk ?_
      rename Fr g L' _ _ => lF2
      rename News g L' _ _ => lN2
      rename_i _ _ K _ hK _
      obtain ⟨b2, hb2, lN3⟩ : ∃ b2, b2 = _ ∧ News g L' _ ((K, listOf #[] 0) :: b2) := ⟨_, rfl, lN2⟩
      clear lN2
      have lN2 := lN3
      have hKb : ∀ p ∈ b2, p.1 < K := by rw [hb2]; exact allLt_mem hK
      clear hK
      have hsub2 : ∀ p ∈ news, p ∈ b2 := fun p hp => by rw [hb2]; exact .tail _ (.tail _ (hsub p hp))
      have c1 : (L' + 1 + 1 + 1, o1) ∈ b2 := by rw [hb2]; simp
      have c2 : (L' + 1 + 1, o2) ∈ b2 := by rw [hb2]; simp
      have c3 : (L' + 1, o3) ∈ b2 := by rw [hb2]; simp
      k_dflt (refine For_turns lF2 ?_ (by intro _; rfl) (by passes_own))
      k_steps
      refine Wait.mk ?_
      have hl2 := hsub2 _ hl
      k_dflt (refine cut_at' lF2 lN2 (.tail _ hl2) (by omega) (by omega) (by omega) (by omega) ?_ (by with_unfolding_all rfl) (fun _ => rfl))
      intro W2 hW FW NW lW
      have NW' : News g L' hW ((W2, listOf cv.toArray 0) :: (K, listOf ([] : List Value).toArray 0) :: b2) := by rw [ecv]; exact NW
      clear NW lN2 lF2
      k_dflt (refine iter_listTurns rfl FW NW' (.head _) rfl rfl ?_)
      intro I hI
      refine items_ind (fun i m₁ nw => ∃ (kv : List Value) (n' : Nat) (u : Str → Option Value), nw = (W2, listOf cv.toArray 0) :: (K, listOf kv.toArray n') :: b2 ∧ DatAll [] kv ((keysOf ((cutR rs lo hi).take i)).map Dat.str) ∧ kv.length ≤ i ∧ m₁ = kM K u) (cv.map .val) ?_ ?_ ?_ ⟨.head _, trivial⟩
      · rintro i a v m₁ nw h tk ha hav ⟨kv, n', u, rfl, hkv, hkl, rfl⟩ hkp F oI hoI N
        obtain ⟨v', hv1, hv2⟩ : ∃ v', cv[i]? = some v' ∧ Itm.val v' = a := by simpa using ha
        subst hv2
        cases hav
        obtain ⟨r, hr, hd, htk⟩ := rd_at cD hv1
        obtain ⟨x, y, rfl⟩ := firstBad_ok hw r (List.mem_of_getElem? hr)
        obtain ⟨T, nT, tx, ty, rfl, hT⟩ := in_ok_rd hd
        clear FW NW'
        unfold kM at F
        have hil : i < cv.length := (List.getElem?_eq_some_iff.mp hv1).1
        have hT2 := hsub2 _ hT
        have hx : x ∈ keysL := hok x y (cut_sub (List.mem_of_getElem? hr))
        have hIK : K < I := hI _ (.tail _ (.head _))
        have hall : ∀ {k : List Value} {n : Nat}, ∀ p ∈ (W2, listOf cv.toArray 0) :: (K, listOf k.toArray n) :: b2, p.1 ≠ I := fun p hp => by
          rcases List.mem_cons.mp hp with rfl | hp
          · exact Nat.ne_of_lt (hI _ (.head _))
          · rcases List.mem_cons.mp hp with rfl | hp
            · exact Nat.ne_of_lt hIK
            · exact Nat.ne_of_lt (hI _ (.tail _ (.tail _ hp)))
        refine name_post ?_
        intro qP eqP
        dsimp only
        k_steps
        refine Wait.mk ?_
        rename Fr g L' _ _ => lF
        rename News g L' _ _ => lN
        k_dflt (refine keys_notIn lN (by simp : (K, listOf kv.toArray n') ∈ _) hkv (keys_dat fun k v hm => hok k v (cut_sub (List.mem_of_mem_take hm))) (keys_str hx) (by ktr_units) (fun hm => ?_) (fun hm => ?_))
        · k_steps
          subst eqP
          k_steps
          refine ⟨_, _, _, (W2, listOf cv.toArray 0) :: (K, listOf kv.toArray n') :: b2, rfl, kM_of lF rfl, lN, fun p hp q hq => ?_, ⟨.head _, trivial⟩, kv, n', _, rfl, ?_, by omega, rfl⟩
          · rw [List.mem_singleton.mp hq]; exact hall p hp
          · rw [htk, keysOf_snoc]
            show DatAll [] kv ((if x ∈ _ then _ else _ : List Str).map Dat.str)
            rw [if_pos hm]; exact hkv
        · k_steps
          refine Wait.mk ?_
          rename Fr g L' _ _ => lF
          rename News g L' _ _ => lN
          k_dflt (refine app_at (l := K) (vs := kv) (n := n') (rest := (I, oI) :: (W2, listOf cv.toArray 0) :: b2) lF (fun p hp => lN p (by
            rcases List.mem_cons.mp hp with rfl | hp
            · exact .tail _ (.tail _ (.head _))
            · rcases List.mem_cons.mp hp with rfl | hp
              · exact .head _
              · rcases List.mem_cons.mp hp with rfl | hp
                · exact .tail _ (.head _)
                · exact .tail _ (.tail _ (.tail _ hp)))) (fun p hp => by
            rcases List.mem_cons.mp hp with rfl | hp
            · exact Nat.ne_of_gt hIK
            · rcases List.mem_cons.mp hp with rfl | hp
              · exact Nat.ne_of_gt (lW _ (.head _))
              · exact Nat.ne_of_lt (hKb p hp)) (by omega) ?_)
          intro h5 F5 N5
          k_steps
          subst eqP
          k_steps
          refine ⟨_, _, _, (W2, listOf cv.toArray 0) :: (K, listOf (kv ++ [Value.str x tx]).toArray (n' + 1)) :: b2, rfl, kM_of F5 rfl, fun p hp => N5 p (by
            rcases List.mem_cons.mp hp with rfl | hp
            · exact .tail _ (.head _)
            · rcases List.mem_cons.mp hp with rfl | hp
              · exact .tail _ (.tail _ (.head _))
              · rcases List.mem_cons.mp hp with rfl | hp
                · exact .head _
                · exact .tail _ (.tail _ (.tail _ hp))), fun p hp q hq => ?_, ⟨.head _, trivial⟩, kv ++ [Value.str x tx], n' + 1, _, rfl, ?_, by simp; omega, rfl⟩
          · rw [List.mem_singleton.mp hq]; exact hall p hp
          · rw [htk, keysOf_snoc]
            show DatAll [] _ ((if x ∈ _ then _ else _ : List Str).map Dat.str)
            rw [if_neg hm, List.map_append]
            exact hkv.append (.one (.str _ _))
      · rintro m₁ nw h tk ⟨kv, n', u, rfl, hkv, hkl, rfl⟩ lF lN
        have hcl2 : (cutR rs lo hi).take (cv.map Itm.val).length = cutR rs lo hi := by rw [List.length_map, ← hcl]; exact List.take_length
        rw [hcl2] at hkv
        clear FW NW' lN3
        unfold kM at lF
        dsimp only
        k_steps
        refine Wait.mk ?_
        k_dflt (refine lc_eval (tst := none) (ce := fun C => _) (cs := fun C => [C + 1]) lF (by with_unfolding_all rfl) rfl (by decide) (fun C => rfl) ?_ ?_)
        · rintro C h hsz c hc
          rw [List.mem_singleton.mp hc]
          refine ⟨Nat.lt_succ_self _, { cls := .type "cell", data := .cell none }, ?_, none, rfl⟩
          show (h.push _).get? (C + 1) = some _
          rw [← hsz]; exact Heap.get?_push_size _ rfl
        k_steps
        obtain ⟨b3, hb3⟩ : ∃ b3, b3 = (W2, listOf cv.toArray 0) :: (K, listOf kv.toArray n') :: b2 := ⟨_, rfl⟩
        have hK3 : (K, listOf kv.toArray n') ∈ b3 := by rw [hb3]; exact .tail _ (.head _)
        rw [← hb3] at lN
        have s3 : ∀ p ∈ b2, p ∈ b3 := fun p hp => by rw [hb3]; exact .tail _ (.tail _ hp)
        have d1 := s3 _ c1
        have d2 := s3 _ c2
        have d3 := s3 _ c3
        have dl := s3 _ hl2
        have dn : ∀ p ∈ news, p ∈ b3 := fun p hp => s3 p (hsub2 p hp)
        clear c1 c2 c3 hl2
        have hkl8 : kv.length ≤ 8 := by
          rw [List.length_map] at hkl
          omega
        refine Wait.mk ?_
        k_dflt (refine lc_list rfl lF lN hK3 (by rw [sizeLine_eq]; omega) (fun C i m₂ h => ∃ o v, h.get? (C + 1) = some o ∧ o.data = .cell (some v) ∧ kv[i]? = some v) (fun i ys nw => (∀ p ∈ b3, p ∈ nw) ∧ DatAll nw ys (((keysOf (cutR rs lo hi)).take i).map fun k => Dat.tuple [.str k, .str (lastOf (cutR rs lo hi) k)])) ⟨fun p hp => hp, .nil⟩ (fun C => binds_cell (R := fun i v => kv[i]? = some v) rfl rfl rfl (Nat.ne_of_lt (Nat.lt_succ_self _)) (fun _ _ _ h => h.1)) ?_ ?_)
        · rintro hB2 C D2 i ys2 nw hX tkX m₂ oC led E' hin ⟨hnw, hJ2⟩ ⟨oc, v, hoc, hcd, hv⟩ GR
          have hcell : (C + 1, oc) ∈ led := GR.cells _ (.head _) oc hoc
          clear lF lN
          have lF := GR.fr
          have lN := GR.nws
          have lC := GR.frame
          have lO := GR.ns
          have e1 := GR.sub _ (hnw _ d1)
          have e2 := GR.sub _ (hnw _ d2)
          have e3 := GR.sub _ (hnw _ d3)
          have el := GR.sub _ (hnw _ dl)
          have en : ∀ p ∈ news, p ∈ led := fun p hp => GR.sub p (hnw p (dn p hp))
          obtain ⟨k, t, hk1, rfl⟩ : ∃ k t, (keysOf (cutR rs lo hi))[i]? = some k ∧ v = .str k t := by
            have h9 : i < ((keysOf (cutR rs lo hi)).map Dat.str).length := by rw [← hkv.length]; exact hin
            obtain ⟨v', h8, h7⟩ := hkv.get h9
            rw [hv] at h8
            cases h8
            have h6 : i < (keysOf (cutR rs lo hi)).length := by simpa using h9
            rw [List.getElem_map] at h7
            cases h7
            exact ⟨_, _, List.getElem?_eq_getElem h6, rfl⟩
          unfold CTurn tstRun
          dsimp only
          rw [if_pos rfl]
          k_steps
          refine Wait.mk ?_
          k_dflt (refine lc_eval (tst := some _) (ce := fun C => _) (cs := fun C => []) lF (by with_unfolding_all rfl) rfl (by decide) (fun C => rfl) (fun _ _ _ _ h => nomatch h) ?_)
          k_steps
          refine Wait.mk ?_
          k_dflt (refine cut_at' lF lN el (by omega) (by omega) (by omega) (by omega) ?_ (by with_unfolding_all rfl) (fun _ => rfl))
          intro W3 h3 F3 N3 l3
          have N3' : News g L' h3 ((W3, listOf cv.toArray 0) :: led) := by rw [ecv]; exact N3
          clear N3
          k_dflt (refine lc_list rfl F3 N3' (.head _) (by rw [sizeLine_eq]; omega) (fun C j m₂ h => ∃ x y, m₂ (Str.ofString "other") = some x ∧ m₂ (Str.ofString "value") = some y ∧ ∃ kx vx t u, (cutR rs lo hi)[j]? = some (.ok kx vx) ∧ x = .str kx t ∧ y = .str vx u) (fun j zs nw => nw = (W3, listOf cv.toArray 0) :: led ∧ DatAll [] zs ((valsOf ((cutR rs lo hi).take j) k).map Dat.str)) ⟨rfl, .nil⟩ (fun C => binds_pair (R := fun j x y => ∃ kx vx t u, (cutR rs lo hi)[j]? = some (.ok kx vx) ∧ x = .str kx t ∧ y = .str vx u) rfl rfl rfl (by decide) rfl (fun j v h ⟨hv1, zs, nw, ⟨hnw1, _⟩, Nw⟩ => ?_)) ?_ ?_)
          · obtain ⟨r, hr, hd, _⟩ := rd_at cD hv1
            obtain ⟨x, y, rfl⟩ := firstBad_ok hw r (List.mem_of_getElem? hr)
            obtain ⟨T, nT, tx, ty, rfl, hT⟩ := in_ok_rd hd
            exact ⟨T, _, _, rfl, ⟨_, (Nw _ (by rw [hnw1]; exact .tail _ (en _ hT))).1, rfl, _, rfl⟩, x, y, tx, ty, hr, rfl, rfl⟩
          · rintro hB3 C3 D3 j zs nw3 hY tkY m₃ oC3 led3 E3 hjn ⟨rfl, hJ3⟩ ⟨_, _, hm1, hm2, kx, vx, tx, tv, hcut, rfl, rfl⟩ GR3
            clear lF lN lC lO F3 N3'
            have lF := GR3.fr
            have lN := GR3.nws
            have lC := GR3.frame
            have lO := GR3.ns
            have hcell' := GR3.sub _ (.tail _ hcell)
            have hjl : j < (cutR rs lo hi).length := (List.getElem?_eq_some_iff.mp hcut).1
            have htk : (cutR rs lo hi).take (j + 1) = (cutR rs lo hi).take j ++ [.ok kx vx] := by
              rw [List.take_add_one, hcut]; rfl
            unfold CTurn tstRun
            dsimp only
            k_steps
            · rename (kx == k) = true => q0
              refine CStep.same lF lN GR3.sub ⟨rfl, ?_⟩
              have e9 : valsOf [.ok kx vx] k = [vx] := by simp [valsOf, valStep, beq_iff_eq.mp q0]
              rw [htk, valsOf_append, e9, List.map_append]
              exact hJ3.append (.one (.str _ _))
            · rename (kx == k) = false => q0
              refine CStep.same lF lN GR3.sub ⟨rfl, ?_⟩
              have e9 : valsOf [.ok kx vx] k = [] := by simp [valsOf, valStep, beq_eq_false_iff_ne.mp q0]
              rw [htk, valsOf_append, e9, List.append_nil]
              exact hJ3
          · rintro hB3 D3 zs nw3 ⟨rfl, hJ3⟩ off3 off4 hY tkY lF3 lN3'
            clear lF lN lC lO F3 N3'
            rw [← hcl, List.take_length] at hJ3
            have lF : Fr g L' hY _ := lF3
            have lN : News g L' hY _ := lN3'
            k_steps
            refine Wait.mk ?_
            obtain ⟨hz1, tz, hz2⟩ := last_at hJ3 ((keysOf_mem (cutR rs lo hi) k).mp (List.mem_of_getElem? hk1))
            k_dflt (refine back_at lN (.head _) hz1 hz2 ?_ (by with_unfolding_all rfl))
            k_steps
            rename News g L' _ (_ :: _ :: _) => lN5
            rename Fr g L' _ _ => lF5
            rename (_ < _ ∧ _ < _ ∧ AllLt _ _) => lt5
            refine CStep.one lF5 lN5 (.head _) (fun p hp => .tail _ (.tail _ (.tail _ hp))) (allLt_mem lt5.2.2) GR.sub ⟨fun p hp => .tail _ (hnw p hp), ?_⟩
            rw [List.take_add_one, hk1, List.map_append]
            refine DatAll.append (hJ2.mono fun p hp => .tail _ hp) (.one ?_)
            exact .tuple (vs := [.str k t, .str (lastOf (cutR rs lo hi) k) tz]) (.head _) (.cons (.str k t) (.cons (.str _ tz) .nil))
        · rintro hB2 D2 ys2 nw ⟨hnw, hJ2⟩ off3 off4 hY tkY lF3 lN3'
          have lF : Fr g L' hY _ := lF3
          have lN : News g L' hY _ := lN3'
          have e9 : (keysOf (cutR rs lo hi)).take kv.length = keysOf (cutR rs lo hi) := by
            have e8 : kv.length = (keysOf (cutR rs lo hi)).length := by simpa using hkv.length
            rw [e8]; exact List.take_length
          rw [e9, ← pairs_dat] at hJ2
          k_steps
          dsimp only
          refine leaveK_ lF lN ?_
          intro kF kN
          exact good D2 ys2 _ _ _ hw kF kN (fun p hp => .tail _ (hnw _ (dn p hp))) (.head _) (hJ2.mono fun p hp => .tail _ hp)
      · exact ⟨[], 0, _, rfl, .nil, Nat.le_refl _, rfl⟩
end
end Mine
end
section
open PySem PySem.W PyProof.Rows PySem.Calls PySem.Spec PyProof.V PyProof.Rows.LCg
set_option Elab.async false
set_option maxRecDepth 100000
set_option maxHeartbeats 8000000
set_option pp.deepTerms false
set_option pp.proofs false
namespace Mine
local macro_rules | `(tactic| k_room) => `(tactic| ktr_room)
local macro_rules | `(tactic| k_mem) => `(tactic| first | assumption | (refine List.mem_cons_of_mem _ ?_; k_mem))
local macro_rules | `(tactic| kxi_size) => `(tactic| (rw [sizeLine_eq]; omega))
theorem wait_at2 {M : Model} {A : Around} {α : Type} {t : Sem α} {Q : α → Shared → Prop} {E : Value → Shared → Prop} {s : Shared} (h : Wait (wpAny M A t Q E s)) : wpAny M A t Q E s := h
local macro_rules | `(tactic| walk_at "subscriptTail") => `(tactic| refine wait_at2 ?_)
theorem allLt_mem2 {d : Nat} : ∀ {l : List (Addr × Obj)}, AllLt d l → ∀ q ∈ l, q.1 < d
  | [], _, _, hq => nomatch hq
  | _ :: _, h, q, hq => by
    rcases List.mem_cons.mp hq with e | e
    · rw [e]; exact h.1
    · exact allLt_mem2 h.2 q e
theorem pick8 {vs : List Value} {bs : List Str} (h : StrsAre vs bs) : ∀ {d : Nat}, d < bs.length → ∃ t, vs[d]? = some (.str (bs.getD d Str.empty) t) := by
  induction h with
  | nil => intro d hd; simp at hd
  | cons y t _ ih =>
    intro d hd
    cases d with
    | zero => exact ⟨t, rfl⟩
    | succ d =>
      obtain ⟨t', h⟩ := ih (d := d) (by simpa using hd)
      exact ⟨t', by simpa using h⟩
theorem len_app (a b : Str) : (a ++ b).length = a.length + b.length := by
  show (a.cps ++ b.cps).size = _
  simp [Str.length]
theorem behind_len {g : Str} (h : g.length ≤ 1) (d : Nat) : ((behind g).getD d Str.empty).length ≤ 5 := by
  have hq : qS.length = 1 := rfl
  have he : eqS.length = 1 := rfl
  have h2 : (Str.ofString "=\"").length = 2 := rfl
  have h0 : (Str.ofString "").length = 0 := rfl
  have all : ∀ x ∈ behind g, x.length ≤ 5 := by
    intro x hx
    simp only [behind, List.mem_cons, List.not_mem_nil, or_false] at hx
    rcases hx with rfl | rfl | rfl | rfl | rfl | rfl | rfl | rfl <;> (try simp only [len_app]) <;> omega
  by_cases hd : d < (behind g).length
  · rw [List.getD_eq_getElem?_getD, List.getElem?_eq_getElem hd]
    exact all _ (List.getElem_mem hd)
  · rw [List.getD_eq_getElem?_getD, List.getElem?_eq_none (by omega)]
    exact Nat.zero_le _
section
variable {w : World} {mean : ExcName → Option Value} {mg mb : Str → Option Value} {dp un : Nat} {gd : Option (List Code)} {cn : Str} {cs : Scope} {a : Addr} {ccd : Value} {cl : List (Str × Addr)} {outer : List Env} {A₀ : Around} {base h₀ : Heap} {L : Addr} {m : Str → Option Value} {news : List (Addr × Obj)} {s : Shared} {Q E : Value → Shared → Prop}
theorem item_spec {key sign : Str} {d : Nat} {t1 t2 t3 : Tok}
   (B : Below A₀ base outer h₀) (F : Fr h₀ L s.heap m) (X : (hd.heap_39 w.params).In h₀) (N : News h₀ L s.heap news) (T : Top hd.view_39 LW mean mg mb h₀) (hk : cs.kind = .function)
   (hkl : key.length ≤ 1) (hsl : sign.length ≤ 1) (hd8 : d < 8)
   (hdp : dp < recursionLimit) (hu : un + 80 < cLine)
   (ret : ∀ T n vi vo tl h' tk', Fr h₀ L h' m → News h₀ L h' tl → (∀ p ∈ news, p ∈ tl) → (∀ p ∈ tl, p ∈ news ∨ ∀ q ∈ news, q.1 < p.1) → (T, ({ cls := .type "tuple", data := .seq #[vi, vo] n } : Obj)) ∈ tl → DatIn tl vi (.str (itemOf key sign d).1) → (∃ nu : List (Addr × Obj), (∀ p ∈ nu, p ∈ tl ∧ ∀ q ∈ news, q.1 < p.1) ∧ DatIn nu vo (rdDat (itemOf key sign d).2)) → Q (.ref T) { s with heap := h', toks := tk' }) :
   wpAny (model PySem.Challenge.rw_pg0107_01.row.prog w) (ktrTop dp un gd cn cs L a ccd cl outer) (call (.ref 64) [.str key t1, .str sign t2, .int d t3]) Q E s := by
  revert X; k_fill; intro X
  k_dflt (refine enter_def [(Str.ofString "key", .str key t1), (Str.ofString "sign", .str sign t2), (Str.ofString "dress", .int d t3)] B F X N T hk (by k_is) (by k_is) (by ktr_room) (BindsTo.of_eq rfl) (by rfl) rfl rfl rfl (by decide) ?_)
  intro g L' h₁ tk FG F' N' B' X' T' lt'
  clear F N B X T
  k_fold
  w_top off
  k_steps
  · rename Fr g L' _ _ => lF
    rename News g L' _ _ => lN
    rename (∀ p, p ∈ news → _ < _) => lt2
    refine leaveK_ lF lN ?_
    intro kF kN
    have hd4 : d = 4 := by omega
    subst hd4
    refine ret _ _ _ _ _ _ _ kF kN (fun p hp => .tail _ hp) (fun p hp => ?_) (.head _) (.str _ _) ⟨[], (fun _ h => nomatch h), .str _ _⟩
    rcases List.mem_cons.mp hp with rfl | hp
    · exact .inr lt2
    · exact .inl hp
  · rename Fr g L' _ _ => lF
    rename News g L' _ _ => lN
    rename (∀ p, p ∈ news → _ < _) => lt2
    refine leaveK_ lF lN ?_
    intro kF kN
    have hd5 : d = 5 := by omega
    subst hd5
    refine ret _ _ _ _ _ _ _ kF kN (fun p hp => .tail _ hp) (fun p hp => ?_) (.head _) (.str _ _) ⟨[], (fun _ h => nomatch h), .str _ _⟩
    rcases List.mem_cons.mp hp with rfl | hp
    · exact .inr lt2
    · exact .inl hp
  · refine Wait.mk ?_
    rename Fr g L' _ _ => lF
    rename News g L' _ _ => lN
    rename (∀ p, p ∈ news → _ < _) => lt2
    have hd4 : d ≠ 4 := by omega
    have hd5 : d ≠ 5 := by omega
    obtain ⟨tb, hb⟩ := pick8 (vs := [_, _, _, _, _, _, _, _]) (bs := behind sign) (.cons sign t2 (.cons _ _ (.cons _ _ (.cons _ _ (.cons _ _ (.cons _ _ (.cons _ _ (.cons _ _ .nil)))))))) hd8
    k_dflt (refine item_at lN (.head _) (by omega) (by omega) hb ?_ (by with_unfolding_all rfl))
    have hbl := behind_len hsl d
    obtain ⟨bh, ebh⟩ : ∃ b, b = (behind sign).getD d Str.empty := ⟨_, rfl⟩
    rw [← ebh] at hbl ⊢
    clear hb
    k_steps
    refine Wait.mk ?_
    obtain ⟨tw, hw⟩ := pick8 (vs := [_, _, _, _, _, _, _, _]) (bs := worth sign bh) (.cons sign t2 (.cons sign t2 (.cons bh tb (.cons _ _ (.cons _ _ (.cons _ _ (.cons bh tb (.cons _ _ .nil)))))))) hd8
    rename News g L' _ _ => lN
    k_dflt (refine item_at lN (.head _) (by omega) (by omega) hw ?_ (by with_unfolding_all rfl))
    clear hw
    k_steps
    rename Fr g L' _ _ => lF
    rename News g L' _ _ => lN
    rename (_ < _ ∧ _ < _ ∧ _ < _ ∧ AllLt _ _) => f2
    rename (_ < _ ∧ _ < _ ∧ AllLt _ _) => f1
    refine leaveK_ lF lN ?_
    intro kF kN
    have e : itemOf key sign d = (key ++ eqS ++ bh, .ok key ((worth sign bh).getD d Str.empty)) := by
      unfold itemOf
      rw [if_neg hd4, if_neg hd5, ← ebh]
    rename (_ < _ ∧ AllLt _ _) => f0
    refine ret _ _ _ _ _ _ _ kF kN (fun p hp => .tail _ (.tail _ (.tail _ (.tail _ hp)))) (fun p hp => ?_) (.head _) (by rw [e]; exact .str _ _) (by rw [e]; exact ⟨[_], (fun p hp => by rw [List.mem_singleton.mp hp]; exact ⟨.tail _ (.head _), allLt_mem2 f1.2.2⟩), .tuple (vs := [.str key t1, .str _ tw]) (.head _) (.cons (.str _ _) (.cons (.str _ _) .nil))⟩)
    rcases List.mem_cons.mp hp with rfl | hp
    · exact .inr (allLt_mem2 f2.2.2.2)
    · rcases List.mem_cons.mp hp with rfl | hp
      · exact .inr (allLt_mem2 f1.2.2)
      · rcases List.mem_cons.mp hp with rfl | hp
        · exact .inr (allLt_mem2 f0.2)
        · rcases List.mem_cons.mp hp with rfl | hp
          · exact .inr lt2
          · exact .inl hp
end
end Mine
end
section
open PySem PySem.W PyProof.Rows PySem.Calls PySem.Spec PyProof.V
set_option Elab.async false
set_option maxRecDepth 100000
set_option maxHeartbeats 8000000
set_option linter.unusedVariables false
namespace Mine
def kRun {α : Type} (lt : Nat → Nat → Bool) : KasT α → α
  | .ret a => a
  | .ask i j k => kRun lt (k (lt i j))
def kIn {α : Type} (lt : Nat → Nat → Bool) (n : Nat) : KasT α → Bool
  | .ret _ => true
  | .ask i j k => decide (i < n) && decide (j < n) && kIn lt n (k (lt i j))
theorem kas_run {α : Type} {cmp : Nat → Nat → (Bool → Shared → Prop) → Shared → Prop} {lt : Nat → Nat → Bool} {n : Nat} {s : Shared} (hc : ∀ i j C, i < n → j < n → C (lt i j) s → cmp i j C s) {Q : α → Shared → Prop} : ∀ (t : KasT α), kIn lt n t = true → Q (kRun lt t) s → t.kasWp cmp Q s
  | .ret a, _, h => h
  | .ask i j k, hi, h => by
    simp only [kIn, Bool.and_eq_true, decide_eq_true_eq] at hi
    exact hc i j _ hi.1.1 hi.1.2 (kas_run hc (k (lt i j)) hi.2 h)
def ranksL (n : Nat) : Nat → List (List Nat)
  | 0 => [[]]
  | k + 1 => (ranksL n k).flatMap fun l => (List.range n).map fun x => x :: l
theorem ranks_mem {n : Nat} : ∀ (l : List Nat), (∀ x ∈ l, x < n) → l ∈ ranksL n l.length
  | [], _ => .head _
  | x :: l, h => List.mem_flatMap.mpr ⟨l, ranks_mem l (fun y hy => h y (.tail _ hy)), List.mem_map.mpr ⟨x, List.mem_range.mpr (h x (.head _)), rfl⟩⟩
def ndB : List Nat → Bool
  | [] => true
  | x :: l => !l.contains x && ndB l
theorem nd_b {l : List Nat} (h : l.Nodup) : ndB l = true := by
  induction l with
  | nil => rfl
  | cons x l ih =>
    obtain ⟨h1, h2⟩ := List.nodup_cons.mp h
    simp [ndB, h1, ih h2]
def rkLt (r : List Nat) (i j : Nat) : Bool := decide (r.getD i 0 < r.getD j 0)
def goodB (n : Nat) (r : List Nat) : Bool :=
  let p := (kRun (rkLt r) (kas_sort n)).toList
  kIn (rkLt r) n (kas_sort n) && p.all (fun i => decide (i < n)) && (List.range n).all (fun i => p.contains i) && decide ((p.map fun i => r.getD i 0) = List.range n)
theorem good_2 : ((ranksL 2 2).all fun r => !ndB r || goodB 2 r) = true := by decide +kernel
theorem good_3 : ((ranksL 3 3).all fun r => !ndB r || goodB 3 r) = true := by decide +kernel
theorem good_4 : ((ranksL 4 4).all fun r => !ndB r || goodB 4 r) = true := by decide +kernel
theorem good_5 : ((ranksL 5 5).all fun r => !ndB r || goodB 5 r) = true := by decide +kernel

theorem good_all {n : Nat} (h2 : 2 ≤ n) (h5 : n ≤ 5) {r : List Nat} (hl : r.length = n) (hr : ∀ x ∈ r, x < n) (hn : r.Nodup) : goodB n r = true := by
  have hm := ranks_mem r hr
  rw [hl] at hm
  have hb := nd_b hn
  have go : ∀ (k : Nat), ((ranksL k k).all fun r => !ndB r || goodB k r) = true → r ∈ ranksL k k → goodB k r = true := fun k hk hm => by
    have := List.all_eq_true.mp hk r hm
    rw [hb] at this
    simpa using this
  have h : n = 2 ∨ n = 3 ∨ n = 4 ∨ n = 5 := by omega
  rcases h with rfl | rfl | rfl | rfl
  · exact go 2 good_2 hm
  · exact go 3 good_3 hm
  · exact go 4 good_4 hm
  · exact go 5 good_5 hm
/-- the rank of one among all -/
def rank (cs : List Int) (x : Int) : Nat := (cs.filter fun y => decide (y < x)).length
theorem rank_mono {cs : List Int} {x y : Int} (h : x ≤ y) : rank cs x ≤ rank cs y := by
  induction cs with
  | nil => exact Nat.le_refl _
  | cons c l ih =>
    unfold rank at ih ⊢
    by_cases h1 : c < x
    · have h2 : c < y := by omega
      simp only [List.filter_cons, h1, h2, decide_true, if_true, List.length_cons]; omega
    · by_cases h2 : c < y
      · simp only [List.filter_cons, h1, h2, decide_true, decide_false, if_true, Bool.false_eq_true, if_false, List.length_cons]; omega
      · simp only [List.filter_cons, h1, h2, decide_false, Bool.false_eq_true, if_false]; exact ih
theorem rank_lt {cs : List Int} {x y : Int} (hx : x ∈ cs) (h : x < y) : rank cs x < rank cs y := by
  induction cs with
  | nil => cases hx
  | cons c l ih =>
    have hm := rank_mono (cs := l) (Int.le_of_lt h)
    unfold rank at ih hm ⊢
    rcases List.mem_cons.mp hx with e | e
    · subst e
      have h1 : ¬ x < x := by omega
      simp only [List.filter_cons, h1, h, decide_true, decide_false, if_true, Bool.false_eq_true, if_false, List.length_cons]; omega
    · have h3 := ih e
      by_cases h1 : c < x
      · have h2 : c < y := by omega
        simp only [List.filter_cons, h1, h2, decide_true, if_true, List.length_cons]; omega
      · by_cases h2 : c < y
        · simp only [List.filter_cons, h1, h2, decide_true, decide_false, if_true, Bool.false_eq_true, if_false, List.length_cons]; omega
        · simp only [List.filter_cons, h1, h2, decide_false, Bool.false_eq_true, if_false]; exact h3
theorem rank_bound {cs : List Int} {x : Int} (hx : x ∈ cs) : rank cs x < cs.length := by
  induction cs with
  | nil => cases hx
  | cons c l ih =>
    have hl : rank l x ≤ l.length := List.length_filter_le ..
    unfold rank at ih hl ⊢
    rcases List.mem_cons.mp hx with e | e
    · subst e
      have h1 : ¬ x < x := by omega
      simp only [List.filter_cons, h1, decide_false, Bool.false_eq_true, if_false, List.length_cons]; omega
    · have h3 := ih e
      by_cases h1 : c < x
      · simp only [List.filter_cons, h1, decide_true, if_true, List.length_cons]; omega
      · simp only [List.filter_cons, h1, decide_false, Bool.false_eq_true, if_false, List.length_cons]; omega
/-- what sorting by any distinct keys gives -/
theorem sort_says (cs : List Int) (hn : cs.Nodup) (h2 : 2 ≤ cs.length) (h5 : cs.length ≤ 5) :
    ∃ p : Array Nat, kIn (fun i j => decide (cs.getD i 0 < cs.getD j 0)) cs.length (kas_sort cs.length) = true ∧ kRun (fun i j => decide (cs.getD i 0 < cs.getD j 0)) (kas_sort cs.length) = p ∧
      (∀ i ∈ p.toList, i < cs.length) ∧ (∀ i, i < cs.length → i ∈ p.toList) ∧ Sorted (p.toList.map fun i => cs.getD i 0) := by
  have hr : ∀ x ∈ cs.map (rank cs), x < cs.length := fun x hx => by
    obtain ⟨c, hc, rfl⟩ := List.mem_map.mp hx
    exact rank_bound hc
  have inj : ∀ x ∈ cs, ∀ y ∈ cs, rank cs x = rank cs y → x = y := fun x hx y hy e => by
    rcases Int.lt_trichotomy x y with h | h | h
    · have := rank_lt hx h; omega
    · exact h
    · have := rank_lt hy h; omega
  have hnd : (cs.map (rank cs)).Nodup := by
    refine List.pairwise_map.mpr (List.Pairwise.imp_of_mem (fun {a b} ha hb hab e => hab (inj a ha b hb e)) hn)
  have hg := good_all h2 h5 (r := cs.map (rank cs)) (by simp) hr hnd
  have elt : ∀ i j, i < cs.length → j < cs.length → rkLt (cs.map (rank cs)) i j = decide (cs.getD i 0 < cs.getD j 0) := fun i j hi hj => by
    unfold rkLt
    have e1 : (cs.map (rank cs)).getD i 0 = rank cs cs[i] := by simp [hi]
    have e2 : (cs.map (rank cs)).getD j 0 = rank cs cs[j] := by simp [hj]
    have e3 : cs.getD i 0 = cs[i] := by simp [hi]
    have e4 : cs.getD j 0 = cs[j] := by simp [hj]
    rw [e1, e2, e3, e4]
    simp only [decide_eq_decide]
    constructor
    · intro h
      rcases Int.lt_or_le cs[i] cs[j] with q | q
      · exact q
      · have := rank_mono (cs := cs) q; omega
    · exact rank_lt (List.getElem_mem hi)
  have same : ∀ {α : Type} (t : KasT α), kIn (rkLt (cs.map (rank cs))) cs.length t = true → kIn (fun i j => decide (cs.getD i 0 < cs.getD j 0)) cs.length t = true ∧ kRun (fun i j => decide (cs.getD i 0 < cs.getD j 0)) t = kRun (rkLt (cs.map (rank cs))) t := by
    intro α t
    induction t with
    | ret a => exact fun h => ⟨rfl, rfl⟩
    | ask i j k ih =>
      intro h
      simp only [kIn, Bool.and_eq_true, decide_eq_true_eq] at h
      obtain ⟨⟨h1, h2⟩, h3⟩ := h
      have e := elt i j h1 h2
      obtain ⟨a, b⟩ := ih _ h3
      rw [e] at a b
      refine ⟨?_, ?_⟩
      · simp only [kIn, h1, h2, decide_true, Bool.true_and]; exact a
      · show kRun _ (k (decide (cs.getD i 0 < cs.getD j 0))) = kRun _ (k (rkLt (cs.map (rank cs)) i j))
        rw [e]; exact b
  unfold goodB at hg
  simp only [Bool.and_eq_true, List.all_eq_true, decide_eq_true_eq, List.mem_range, List.contains_iff_mem] at hg
  obtain ⟨⟨⟨g1, g2⟩, g3⟩, g4⟩ := hg
  obtain ⟨s1, s2⟩ := same _ g1
  refine ⟨_, s1, s2, g2, g3, ?_⟩
  refine List.pairwise_map.mpr ?_
  have hp : ((kRun (rkLt (cs.map (rank cs))) (kas_sort cs.length)).toList.map fun i => (cs.map (rank cs)).getD i 0).Pairwise (· < ·) := by
    rw [g4]; exact List.pairwise_lt_range
  refine (List.pairwise_map.mp hp).imp_of_mem fun {i j} hi hj hij => ?_
  have h1 := elt i j (g2 i hi) (g2 j hj)
  have h2 : rkLt (cs.map (rank cs)) i j = true := decide_eq_true hij
  rw [h1] at h2
  exact of_decide_eq_true h2
end Mine
end
section
open PySem PySem.W PyProof.Rows PySem.Calls PySem.Spec PyProof.V
open PySem.MeetsSeq PySem.MeetsSeq3
set_option Elab.async false
set_option maxRecDepth 100000
set_option maxHeartbeats 8000000
set_option linter.unusedVariables false
namespace Mine
section
variable {prog : Program} {w : World} {A : Around} {E : Value → Shared → Prop} {s : Shared} {h₀ : Heap} {L : Addr} {m : Str → Option Value} {news : List (Addr × Obj)}
theorem row_keyLt {a b : Addr} {k1 k2 : Str} {p1 p2 : Int} {t1 u1 t2 u2 : Tok} {n1 n2 : Nat} {Q : Bool → Shared → Prop} (ga : s.heap.get? a = some (rowObj k1 p1 t1 u1 n1)) (gb : s.heap.get? b = some (rowObj k2 p2 t2 u2 n2)) (hu : A.units < cLine) (h : Q (rowLt (k1, p1) (k2, p2)) s) :
    wpAny (model prog w) A (keyLt' oneType' (.ref a) (.ref b)) Q E s := by
  rw [keyLt'_oneType, oneLt'_eq]
  simp only [if_true]
  have Ta : s.TypeIs (.ref a) "list" := ⟨_, ga, rfl⟩
  refine wpAny_bind (wpAny_cRoomFor hu ?_)
  refine wpAny_bind (wpAny_callSpecialIfBound?_slot Ta F.slot_list_lt (call_meets F.slot_list_lt Ta F.entry_list_lt (F.args_list_lt_2 _ _) (list_lt (xs := #[.str k1 t1, .int p1 u1]) (ys := #[.str k2 t2, .int p2 u2]) rfl rfl rfl rfl rfl rfl) ⟨ga, gb, ?_⟩))
  exact wpAny_truthy_bool h
/-- none or one to be sorted -/
theorem sort_short {a : Addr} {vs : List Value} {n : Nat} {P : PySem.Fin → Shared → Prop} (F : Fr h₀ L s.heap m) (N : News h₀ L s.heap news) (ho : s.heap.get? a = some (seqObj "list" vs.toArray n)) (haL : a ≠ L) (ha0 : h₀.get? a = none) (hna : ∀ p ∈ news, p.1 ≠ a) (h2 : vs.length < 2)
    (h : ∀ c h', Fr h₀ L h' m → News h₀ L h' ((a, listOf vs.toArray c) :: news) → P (.done (.ret .none)) { s with heap := h' }) :
    wpAny (model prog w) A (Builtin.«list.sort» ⟨[.ref a], []⟩) P E s := by
  have s1 := Heap.SameBut.update s.heap a (Obj.mapSeq fun _ => (#[] : Array Value))
  obtain ⟨e1, ho1⟩ : ∃ e1, (s.heap.update a (Obj.mapSeq fun _ => (#[] : Array Value))).get? a = some (seqObj "list" #[] e1) := ⟨_, get?_update_seq ho fun _ => #[]⟩
  have F3 : Fr h₀ L (((s.heap.update a (Obj.mapSeq fun _ => (#[] : Array Value))).push (seqObj "tuple" vs.toArray 0)).push (seqObj "list" #[] 0)) m := ((kas_fr F s1 haL ha0).push _).push _
  have N3 : News h₀ L (((s.heap.update a (Obj.mapSeq fun _ => (#[] : Array Value))).push (seqObj "tuple" vs.toArray 0)).push (seqObj "list" #[] 0)) news :=
    (kas_news N s1 hna).grown fun b x e => Heap.get?_push_of_some _ (Heap.get?_push_of_some _ e)
  have na : (((s.heap.update a (Obj.mapSeq fun _ => (#[] : Array Value))).push (seqObj "tuple" vs.toArray 0)).push (seqObj "list" #[] 0)).get? a = some (seqObj "list" #[] e1) := Heap.get?_push_of_some _ (Heap.get?_push_of_some _ ho1)
  rw [list_sort_plain]
  refine wpAny_bind (listItems_at ho rfl ?_)
  refine wpAny_bind (listUpdate_at ho rfl ?_ (by rw [List.size_toArray, sizeLine_eq]; omega) (Nat.zero_le _))
  refine wpAny_bind (seqEpoch_at ho1 rfl ?_)
  refine wpAny_bind (wpAny_newTuple ?_ (by show vs.length ≤ _; rw [sizeLine_eq]; omega))
  refine wpAny_bind (wpAny_newList ?_ (Nat.zero_le _))
  refine wpAny_holding ?_
  show wpAny (model prog w) A _ P E { s with heap := ((s.heap.update a (Obj.mapSeq fun _ => (#[] : Array Value))).push (seqObj "tuple" vs.toArray 0)).push (seqObj "list" #[] 0) }
  dsimp only
  have hn2 : vs.toArray.size < 2 := by rw [List.size_toArray]; omega
  rw [if_pos hn2, if_pos hn2]
  refine wpAny_bind (wpAny_pure ?_)
  refine wpAny_bind (wpAny_pure ?_)
  dsimp only
  have hout : (arrOf (SortSt.mk' general' (vs.toArray.zip vs.toArray) #[] 7 none)).map (·.2) = vs.toArray := by
    show (vs.toArray.zip vs.toArray).map (·.2) = vs.toArray
    apply Array.toList_inj.mp
    rw [Array.toList_map, Array.toList_zip]
    exact List.map_snd_zip (Nat.le_refl _)
  rw [hout]
  refine wpAny_bind (seqEpoch_at na rfl ?_)
  refine wpAny_bind (listUpdate_at na rfl ?_ (Nat.zero_le _) (by rw [List.size_toArray, sizeLine_eq]; omega))
  show wpAny (model prog w) A _ P E _
  simp only [bne_self_eq_false, Bool.false_eq_true, if_false]
  have s2 := Heap.SameBut.update (((s.heap.update a (Obj.mapSeq fun _ => (#[] : Array Value))).push (seqObj "tuple" vs.toArray 0)).push (seqObj "list" #[] 0)) a (Obj.mapSeq fun _ => vs.toArray)
  obtain ⟨c2, hc2⟩ : ∃ c2, ((((s.heap.update a (Obj.mapSeq fun _ => (#[] : Array Value))).push (seqObj "tuple" vs.toArray 0)).push (seqObj "list" #[] 0)).update a (Obj.mapSeq fun _ => vs.toArray)).get? a = some (seqObj "list" vs.toArray c2) := ⟨_, get?_update_seq na fun _ => vs.toArray⟩
  refine wpAny_pure (h c2 _ (kas_fr F3 s2 haL ha0) fun p hp => ?_)
  rcases List.mem_cons.mp hp with rfl | hp
  · exact ⟨hc2, haL, ha0⟩
  · exact kas_news N3 s2 hna p hp
theorem sorted_short {l : Addr} {vs : List Value} {Q : Value → Shared → Prop} (F : Fr h₀ L s.heap m) (N : News h₀ L s.heap news) (hl : s.heap.IsList l vs.toArray) (h2 : vs.length < 2)
    (h : ∀ D c h', Fr h₀ L h' m → News h₀ L h' ((D, listOf vs.toArray c) :: news) → (∀ q ∈ news, q.1 < D) → Q (.ref D) { s with heap := h' }) :
    wpAny (model prog w) A (call (.builtin "sorted") [.ref l]) Q E s := by
  refine Calls.call_function_entry kind_sorted plain_sorted entry_sorted (args_sorted1 _) ?_
  unfold Builtin.«sorted»
  refine wpAny_bind (m := checkCount "sorted" 1 1 _) (wpAny_pure ?_)
  refine wpAny_bind (collect_list hl ?_ (by rw [sizeLine_eq]; omega))
  refine wpAny_bind (wpAny_newList ?_ (by rw [sizeLine_eq]; omega))
  have hsz : ((s.heap.push (seqObj "list" #[] 0)).update s.heap.objs.size (Obj.mapSeq (· ++ vs.toArray))).objs.size = s.heap.objs.size + 1 := by
    rw [Heap.size_update, size_push']
  have hoL : (((s.heap.push (seqObj "list" #[] 0)).update s.heap.objs.size (Obj.mapSeq (· ++ vs.toArray))).push (seqObj "list" vs.toArray 0)).get? (s.heap.objs.size + 1) = some (seqObj "list" vs.toArray 0) := by
    rw [← hsz]; exact Heap.get?_push_size _ rfl
  have keep : ∀ b o, s.heap.get? b = some o → (((s.heap.push (seqObj "list" #[] 0)).update s.heap.objs.size (Obj.mapSeq (· ++ vs.toArray))).push (seqObj "list" vs.toArray 0)).get? b = some o := fun b o q => by
    have hlt : b < s.heap.objs.size := Heap.lt_size q
    rw [Heap.get?_push_ne _ _ _ (by rw [hsz]; exact Nat.ne_of_lt (Nat.lt_succ_of_lt hlt)), Heap.get?_update_ne _ _ _ _ (Nat.ne_of_lt hlt), Heap.get?_push_ne _ _ _ (Nat.ne_of_lt hlt)]
    exact q
  have hL : L < s.heap.objs.size := F.ns.lt
  show wpAny _ _ _ _ _ { s with heap := ((s.heap.push (seqObj "list" #[] 0)).update s.heap.objs.size (Obj.mapSeq (· ++ vs.toArray))).push (seqObj "list" vs.toArray 0) }
  rw [hsz]
  refine wpAny_bind (wpAny_holding (wpAny_call_entry slot_list_sort ⟨_, hoL, rfl⟩ entry_list_sort ?body (args_list_sort _)))
  case body =>
    refine sort_short (s := { s with heap := ((s.heap.push (seqObj "list" #[] 0)).update s.heap.objs.size (Obj.mapSeq (· ++ vs.toArray))).push (seqObj "list" vs.toArray 0) })
      (F.kept keep) (N.grown keep) hoL (Nat.ne_of_gt (Nat.lt_succ_of_lt hL)) (Heap.get?_none_of_le (Nat.le_trans F.above (Nat.le_succ_of_le (Nat.le_of_lt hL))))
      (fun p hp => Nat.ne_of_lt (Nat.lt_succ_of_lt (Heap.lt_size (N p hp).1))) h2 fun c h' F' N' => ?_
    exact ⟨_, rfl, wpAny_pure ⟨_, rfl, h _ c h' F' N' fun q hq => Nat.lt_succ_of_lt (Heap.lt_size (N q hq).1)⟩⟩

theorem pick_dat {nw : List (Addr × Obj)} {α : Type} {f : α → Dat} {d₀ : α} {vs : List Value} {xs : List α} (hd : DatAll nw vs (xs.map f)) : ∀ (l : List Nat), (∀ i ∈ l, i < xs.length) → DatAll nw (l.map fun i => vs.getD i Value.none) ((l.map fun i => xs.getD i d₀).map f)
  | [], _ => .nil
  | i :: l, h => by
    have hi : i < xs.length := h i (.head _)
    obtain ⟨v, h1, h2⟩ := hd.get (k := i) (by simpa using hi)
    refine .cons ?_ (pick_dat hd l fun j hj => h j (.tail _ hj))
    have e1 : vs.getD i Value.none = v := by rw [List.getD_eq_getElem?_getD, h1]; rfl
    have e2 : xs.getD i d₀ = xs[i] := by simp [hi]
    show DatIn nw (vs.getD i Value.none) (f (xs.getD i d₀))
    rw [e1, e2]
    simpa using h2
theorem sorted_rows {l : Addr} {vs : List Value} {n : Nat} {rows : List (Str × Int)} {Q : Value → Shared → Prop} (F : Fr h₀ L s.heap m) (N : News h₀ L s.heap news) (hm : (l, listOf vs.toArray n) ∈ news) (hd : DatAll news vs (rows.map rowDat)) (hok : ∀ r ∈ rows, RowOk r) (hnd : (rows.map code).Nodup) (hlen : rows.length ≤ 5) (hu : A.units + 8 < cLine)
    (k : ∀ D c h' (vs' : List Value) (rows' : List (Str × Int)), Fr h₀ L h' m → News h₀ L h' ((D, listOf vs'.toArray c) :: news) → (∀ q ∈ news, q.1 < D) → DatAll news vs' (rows'.map rowDat) → Sorted (rows'.map code) → (∀ x, x ∈ rows' ↔ x ∈ rows) → Q (.ref D) { s with heap := h' }) :
    wpAny (model prog w) A (call (.builtin "sorted") [.ref l]) Q E s := by
  have hl : s.heap.IsList l vs.toArray := News.isList N hm
  have hvl : vs.length = rows.length := by simpa using hd.length
  by_cases h2 : vs.length < 2
  · refine sorted_short F N hl h2 fun D c h' F' N' hlt => k D c h' vs rows F' N' hlt hd ?_ fun x => Iff.rfl
    match rows, hvl with
    | [], _ => exact .nil
    | [x], _ => exact List.pairwise_singleton ..
    | _ :: _ :: _, hvl => simp at hvl; omega
  · refine kas_sorted (T := .type "list") F N hl (by omega) (by omega) (fun h Fh Nh v hv => ?_) rfl fun D e1 h' F' N' hlt => ?_
    · obtain ⟨i, hi⟩ := List.mem_iff_getElem?.mp hv
      have hi' : i < (rows.map rowDat).length := by rw [← hd.length]; exact (List.getElem?_eq_some_iff.mp hi).1
      obtain ⟨v', h3, h4⟩ := hd.get hi'
      rw [hi] at h3
      cases h3
      have hi3 : i < rows.length := by simpa using hi'
      have h5 : (rows.map rowDat)[i] = rowDat rows[i] := by simp
      rw [h5] at h4
      obtain ⟨a, t, u, n', rfl, hm'⟩ := row_of h4
      exact (Looks.ld (Nh _ hm').1).andThen .now
    · obtain ⟨p, q1, q2, q3, q4, q5⟩ := sort_says (rows.map code) hnd (by simp; omega) (by simpa using hlen)
      have el : (rows.map code).length = vs.length := by simp [hvl]
      rw [el] at q1 q2
      refine kas_run (lt := fun i j => decide ((rows.map code).getD i 0 < (rows.map code).getD j 0)) (n := vs.length) (fun i j C hi hj hC => ?_) _ q1 ?_
      · have get : ∀ i, i < vs.length → ∃ a t u n', vs.getD i Value.none = .ref a ∧ (a, rowObj (rows.getD i default).1 (rows.getD i default).2 t u n') ∈ news ∧ (rows.map code).getD i 0 = code (rows.getD i default) ∧ RowOk (rows.getD i default) := fun i hi => by
          have hi2 : i < rows.length := by omega
          obtain ⟨v, h3, h4⟩ := hd.get (k := i) (by simpa using hi2)
          have e1 : vs.getD i Value.none = v := by rw [List.getD_eq_getElem?_getD, h3]; rfl
          have e2 : rows.getD i default = rows[i] := by simp [hi2]
          have h5 : (rows.map rowDat)[i]'(by simpa using hi2) = rowDat rows[i] := by simp
          rw [h5] at h4
          obtain ⟨a, t, u, n', e3, hm'⟩ := row_of h4
          refine ⟨a, t, u, n', by rw [e1, e3], by rw [e2]; exact hm', by rw [e2]; simp [hi2], by rw [e2]; exact hok _ (List.getElem_mem hi2)⟩
        obtain ⟨a, t, u, n1, e1, m1, c1, o1⟩ := get i hi
        obtain ⟨b, t', u', n2, e2, m2, c2, o2⟩ := get j hj
        unfold kas_ask
        rw [e1, e2]
        refine row_keyLt (N' _ (.tail _ m1)).1 (N' _ (.tail _ m2)).1 (by simp only [units_in1]; omega) ?_
        rw [show (rows.getD i default).1 = (rows.getD i default).1 from rfl]
        have e3 : rowLt ((rows.getD i default).1, (rows.getD i default).2) ((rows.getD j default).1, (rows.getD j default).2) = decide ((rows.map code).getD i 0 < (rows.map code).getD j 0) := by
          rw [c1, c2]; exact rowLt_code o1 o2
        rw [e3]; exact hC
      · rw [q2]
        rw [el] at q4
        refine KasFin.intro F' N' (.head fun q hq => Nat.ne_of_lt (hlt q hq)) fun h'' c F'' N'' => ?_
        refine k D c h'' _ (p.toList.map fun i => rows.getD i default) F'' N'' hlt (pick_dat hd _ fun i hi => by have := q3 i hi; simpa using this) ?_ fun x => ⟨fun hx => ?_, fun hx => ?_⟩
        · rw [List.map_map]
          have e : (p.toList.map (code ∘ fun i => rows.getD i default)) = p.toList.map fun i => (rows.map code).getD i 0 := List.map_congr_left fun i hi => by
            have hi2 : i < rows.length := by have := q3 i hi; simpa using this
            simp [hi2]
          rw [e]; exact q5
        · obtain ⟨i, hi, rfl⟩ := List.mem_map.mp hx
          have hi2 : i < rows.length := by have := q3 i hi; simpa using this
          simp [hi2]
        · obtain ⟨i, hi, rfl⟩ := List.getElem_of_mem hx
          exact List.mem_map.mpr ⟨i, q4 i (by omega), by simp [hi]⟩
abbrev pairI (x : Int × Int) : Dat := .tuple [.int x.1, .int x.2]
theorem pair_of {nw : List (Addr × Obj)} {v : Value} {x : Int × Int} (h : DatIn nw v (pairI x)) : ∃ a t u n, v = .ref a ∧ (a, ({ cls := .type "tuple", data := .seq #[.int x.1 t, .int x.2 u] n } : Obj)) ∈ nw := by
  cases h with
  | tuple hm hd =>
    cases hd with
    | cons h1 hd =>
      cases hd with
      | cons h2 hd =>
        cases hd
        cases h1
        cases h2
        exact ⟨_, _, _, _, rfl, hm⟩
theorem sorted_pairs {l : Addr} {vs : List Value} {n : Nat} {xs : List (Int × Int)} {Q : Value → Shared → Prop} (F : Fr h₀ L s.heap m) (N : News h₀ L s.heap news) (hm : (l, listOf vs.toArray n) ∈ news) (hd : DatAll news vs (xs.map pairI)) (hnd : (xs.map (·.1)).Nodup) (hlen : xs.length ≤ 5) (hu : A.units + 8 < cLine)
    (k : ∀ D c h' (vs' : List Value) (xs' : List (Int × Int)), Fr h₀ L h' m → News h₀ L h' ((D, listOf vs'.toArray c) :: news) → (∀ q ∈ news, q.1 < D) → DatAll news vs' (xs'.map pairI) → Sorted (xs'.map (·.1)) → (∀ x, x ∈ xs' ↔ x ∈ xs) → Q (.ref D) { s with heap := h' }) :
    wpAny (model prog w) A (call (.builtin "sorted") [.ref l]) Q E s := by
  have hl : s.heap.IsList l vs.toArray := News.isList N hm
  have hvl : vs.length = xs.length := by simpa using hd.length
  by_cases h2 : vs.length < 2
  · refine sorted_short F N hl h2 fun D c h' F' N' hlt => k D c h' vs xs F' N' hlt hd ?_ fun x => Iff.rfl
    match xs, hvl with
    | [], _ => exact .nil
    | [x], _ => exact List.pairwise_singleton ..
    | _ :: _ :: _, hvl => simp at hvl; omega
  · refine kat_sorted F N hl (by omega) (by omega) fun D e1 h' F' N' hlt => ?_
    have tups : ∀ {vs : List Value} {xs : List (Int × Int)}, DatAll news vs (xs.map pairI) → ∃ fs : List Value, KatTups h' vs fs ∧ fs.length = vs.length ∧ ∀ v ∈ fs, ∃ i t, v = .int i t := by
      intro vs
      induction vs with
      | nil => intro xs _; exact ⟨[], .nil, rfl, fun _ h => nomatch h⟩
      | cons v vs ih =>
        intro xs hd
        cases xs with
        | nil => cases hd
        | cons x xs =>
          cases hd with
          | cons hv hd =>
            obtain ⟨a, t, u, n', rfl, hm'⟩ := pair_of hv
            obtain ⟨fs, h3, h4, h5⟩ := ih hd
            refine ⟨.int x.1 t :: fs, .cons (N' _ (.tail _ hm')).1 rfl rfl rfl h3, by simp [h4], fun v hv => ?_⟩
            rcases List.mem_cons.mp hv with rfl | hv
            · exact ⟨_, _, rfl⟩
            · exact h5 v hv
    obtain ⟨fs, hfs, hfl, hfi⟩ := tups hd
    refine kat_kind (T := .type "int") hfs (by omega) (fun v hv => ?_) rfl ?_
    · obtain ⟨i, t, rfl⟩ := hfi v hv
      exact Looks.of_pure rfl
    · obtain ⟨p, q1, q2, q3, q4, q5⟩ := sort_says (xs.map (·.1)) hnd (by simp; omega) (by simpa using hlen)
      have el : (xs.map (·.1)).length = vs.length := by simp [hvl]
      rw [el] at q1 q2
      refine kas_run (lt := fun i j => decide ((xs.map (·.1)).getD i 0 < (xs.map (·.1)).getD j 0)) (n := vs.length) (fun i j C hi hj hC => ?_) _ q1 ?_
      · have get : ∀ i, i < vs.length → ∃ a t u n', vs.getD i Value.none = .ref a ∧ (a, ({ cls := .type "tuple", data := .seq #[.int (xs.getD i default).1 t, .int (xs.getD i default).2 u] n' } : Obj)) ∈ news ∧ (xs.map (·.1)).getD i 0 = (xs.getD i default).1 := fun i hi => by
          have hi2 : i < xs.length := by omega
          obtain ⟨v, h3, h4⟩ := hd.get (k := i) (by simpa using hi2)
          have e1 : vs.getD i Value.none = v := by rw [List.getD_eq_getElem?_getD, h3]; rfl
          have e2 : xs.getD i default = xs[i] := by simp [hi2]
          have h5 : (xs.map pairI)[i]'(by simpa using hi2) = pairI xs[i] := by simp
          rw [h5] at h4
          obtain ⟨a, t, u, n', e3, hm'⟩ := pair_of h4
          refine ⟨a, t, u, n', by rw [e1, e3], by rw [e2]; exact hm', by rw [e2]; simp [hi2]⟩
        obtain ⟨a, t, u, n1, e1, m1, c1⟩ := get i hi
        obtain ⟨b, t', u', n2, e2, m2, c2⟩ := get j hj
        unfold kas_ask
        rw [e1, e2]
        refine kat_lt (N' _ (.tail _ m1)).1 rfl (N' _ (.tail _ m2)).1 rfl ?_
        refine kat_cons (wpAny_eqBool_int ?_)
        by_cases hij : (xs.getD i default).1 = (xs.getD j default).1
        · have hij' : i = j := by
            have hi2 : i < (xs.map (·.1)).length := by omega
            have hj2 : j < (xs.map (·.1)).length := by omega
            rw [← c1, ← c2] at hij
            have e5 : (xs.map (·.1)).getD i 0 = (xs.map (·.1))[i] := by simp only [List.getD_eq_getElem?_getD, List.getElem?_eq_getElem hi2, Option.getD_some]
            have e6 : (xs.map (·.1)).getD j 0 = (xs.map (·.1))[j] := by simp only [List.getD_eq_getElem?_getD, List.getElem?_eq_getElem hj2, Option.getD_some]
            rw [e5, e6] at hij
            exact (List.getElem_inj hnd).mp hij
          subst hij'
          have hb : ((xs.getD i default).1 == (xs.getD i default).1) = true := by simp
          rw [hb]
          refine kat_yes (kat_cons (wpAny_eqBool_int ?_))
          have hb2 : ((xs.getD i default).2 == (xs.getD i default).2) = true := by simp
          rw [hb2]
          refine kat_yes (kat_nil ?_)
          have e7 : decide ((xs.map (·.1)).getD i 0 < (xs.map (·.1)).getD i 0) = false := by simp
          rw [e7] at hC
          exact hC
        · have hb : ((xs.getD i default).1 == (xs.getD j default).1) = false := by simpa using hij
          rw [hb]
          refine kat_no ?_
          show wpAny _ _ (oneLt' true _ _) _ _ _
          refine oneLt_int ?_
          rw [c1, c2] at hC
          exact hC
      · rw [q2]
        rw [el] at q4
        refine KasFin.intro F' N' (.head fun q hq => Nat.ne_of_lt (hlt q hq)) fun h'' c F'' N'' => ?_
        refine k D c h'' _ (p.toList.map fun i => xs.getD i default) F'' N'' hlt (pick_dat hd _ fun i hi => by have := q3 i hi; simpa using this) ?_ fun x => ⟨fun hx => ?_, fun hx => ?_⟩
        · rw [List.map_map]
          have e : (p.toList.map ((·.1) ∘ fun i => xs.getD i default)) = p.toList.map fun i => (xs.map (·.1)).getD i 0 := List.map_congr_left fun i hi => by
            have hi2 : i < xs.length := by have := q3 i hi; simpa using this
            simp [hi2]
          rw [e]; exact q5
        · obtain ⟨i, hi, rfl⟩ := List.mem_map.mp hx
          have hi2 : i < xs.length := by have := q3 i hi; simpa using this
          simp [hi2]
        · obtain ⟨i, hi, rfl⟩ := List.getElem_of_mem hx
          exact List.mem_map.mpr ⟨i, q4 i (by omega), by simp [hi]⟩
end
end Mine
end
section
open PySem PySem.W PyProof.Rows PySem.Calls PySem.Spec PyProof.V
set_option Elab.async false
set_option maxRecDepth 100000
set_option maxHeartbeats 2000000
set_option linter.unusedVariables false
namespace Mine
structure Idx (rs : List Rd) (rows : List (Str × Int)) (fs : List Int) : Prop where
  len : rs.length = 5
  keys : ∀ k v, Rd.ok k v ∈ rs → k ∈ keysL
  srt : Sorted (rows.map code)
  mem : ∀ x, x ∈ rows ↔ ∃ (i : Nat) (v : Str), rs[i]? = some (Rd.ok x.1 v) ∧ x.2 = (i : Int)
  fsrt : Sorted fs
  fmem : ∀ y, y ∈ fs ↔ ∃ (i : Nat) (b : Bool), rs[i]? = some (Rd.bad b) ∧ y = (i : Int)
theorem Idx.rowOk {rs : List Rd} {rows : List (Str × Int)} {fs : List Int} (I : Idx rs rows fs) : ∀ r ∈ rows, RowOk r := by
  intro r hr
  obtain ⟨i, v, h1, h2⟩ := (I.mem r).mp hr
  have hi := (List.getElem?_eq_some_iff.mp h1).1
  have := I.len
  exact ⟨I.keys _ v (List.mem_of_getElem? h1), by omega, by omega⟩
theorem sorted_nodup {cs : List Int} (h : Sorted cs) : cs.Nodup := h.imp fun hab e => by omega
theorem len_bound (cs : List Int) (lo : Int) : ∀ n : Nat, Sorted cs → (∀ y ∈ cs, lo ≤ y ∧ y < lo + n) → cs.length ≤ n := by
  induction cs generalizing lo with
  | nil => intro n _ _; exact Nat.zero_le _
  | cons c l ih =>
    intro n hs hb
    obtain ⟨h1, h2⟩ := List.pairwise_cons.mp hs
    have hc := hb c (.head _)
    cases n with
    | zero => omega
    | succ n =>
      have := ih (lo + 1) n h2 fun y hy => by
        have a := h1 y hy
        have b := hb y (.tail _ hy)
        omega
      simp only [List.length_cons]; omega
theorem Idx.flen {rs : List Rd} {rows : List (Str × Int)} {fs : List Int} (I : Idx rs rows fs) : fs.length ≤ 5 := by
  refine len_bound fs 0 5 I.fsrt fun y hy => ?_
  obtain ⟨i, b, h1, h2⟩ := (I.fmem y).mp hy
  have hi := (List.getElem?_eq_some_iff.mp h1).1
  have := I.len
  omega
theorem Idx.rlen {rs : List Rd} {rows : List (Str × Int)} {fs : List Int} (I : Idx rs rows fs) : rows.length ≤ 64 := by
  have := len_bound (rows.map code) 0 64 I.srt fun y hy => by
    obtain ⟨r, hr, rfl⟩ := List.mem_map.mp hy
    obtain ⟨i, v, h1, h2⟩ := (I.mem r).mp hr
    have hi := (List.getElem?_eq_some_iff.mp h1).1
    have hl := I.len
    have hk := I.keys _ v (List.mem_of_getElem? h1)
    have hr : 0 ≤ rk r.1 ∧ rk r.1 ≤ 2 := by unfold rk; split <;> (try split) <;> omega
    unfold code
    omega
  simpa using this
/-- a list's first bad one -/
theorem firstBad_at {l : List Rd} {n : Nat} {b : Bool} (h : l[n]? = some (.bad b)) (hn : ∀ i, i < n → ∀ b, l[i]? ≠ some (.bad b)) : firstBad l = some b := by
  induction l generalizing n with
  | nil => simp at h
  | cons x l ih =>
    cases n with
    | zero =>
      have : x = .bad b := by simpa using h
      subst this; rfl
    | succ n =>
      cases x with
      | bad c => exact absurd rfl (hn 0 (Nat.succ_pos _) c)
      | ok k v => exact ih (n := n) (by simpa using h) fun i hi b' e => hn (i + 1) (Nat.succ_lt_succ hi) b' (by simpa using e)
theorem firstBad_ex {l : List Rd} {b : Bool} (h : firstBad l = some b) : ∃ n : Nat, l[n]? = some (.bad b) := by
  induction l with
  | nil => cases h
  | cons x l ih =>
    cases x with
    | bad c => cases h; exact ⟨0, rfl⟩
    | ok k v =>
      obtain ⟨n, hn⟩ := ih h
      exact ⟨n + 1, by simpa using hn⟩
theorem cut_get {rs : List Rd} {lo hi n : Nat} (h : n < hi - lo) : (cutR rs lo hi)[n]? = rs[lo + n]? := by
  unfold cutR
  rw [List.getElem?_take, if_pos h, List.getElem?_drop]
theorem cut_none {rs : List Rd} {lo hi n : Nat} (h : ¬ n < hi - lo) : (cutR rs lo hi)[n]? = none := by
  unfold cutR
  rw [List.getElem?_take, if_neg h]
theorem fault_yes {rs : List Rd} {rows : List (Str × Int)} {fs : List Int} (I : Idx rs rows fs) {lo hi r1 r2 : Nat} (h1 : LeftAt fs lo r1) (h2 : LeftAt fs hi r2) (h : r1 < r2) :
    ∃ (p : Nat) (b : Bool), fs[r1]? = some (p : Int) ∧ rs[p]? = some (.bad b) ∧ firstBad (cutR rs lo hi) = some b := by
  have hr : r1 < fs.length := Nat.lt_of_lt_of_le h h2.le
  have hg := List.getElem?_eq_getElem hr
  obtain ⟨p, b, hp, e⟩ := (I.fmem _).mp (List.getElem_mem hr)
  rw [e] at hg
  have a1 := h1.high r1 _ (Nat.le_refl _) hg
  have a2 := h2.low r1 _ h hg
  refine ⟨p, b, hg, hp, firstBad_at (n := p - lo) ?_ fun i hi' b' e' => ?_⟩
  · rw [cut_get (by omega), show lo + (p - lo) = p by omega]; exact hp
  · rw [cut_get (by omega)] at e'
    obtain ⟨j, hj⟩ := List.mem_iff_getElem?.mp ((I.fmem ((lo + i : Nat) : Int)).mpr ⟨lo + i, b', e', rfl⟩)
    by_cases hjr : j < r1
    · have := h1.low j _ hjr hj; omega
    · rcases Nat.lt_or_eq_of_le (Nat.le_of_not_lt hjr) with q | q
      · have := sorted_get I.fsrt hg hj q; omega
      · rw [q, hj] at hg
        have := Option.some.inj hg
        omega
theorem fault_no {rs : List Rd} {rows : List (Str × Int)} {fs : List Int} (I : Idx rs rows fs) {lo hi r1 r2 : Nat} (h1 : LeftAt fs lo r1) (h2 : LeftAt fs hi r2) (h : ¬ r1 < r2) : firstBad (cutR rs lo hi) = none := by
  cases e : firstBad (cutR rs lo hi) with
  | none => rfl
  | some b =>
    exfalso
    obtain ⟨n, hn⟩ := firstBad_ex e
    by_cases hc : n < hi - lo
    · rw [cut_get hc] at hn
      obtain ⟨j, hj⟩ := List.mem_iff_getElem?.mp ((I.fmem ((lo + n : Nat) : Int)).mpr ⟨lo + n, b, hn, rfl⟩)
      have a1 : ¬ j < r1 := fun q => by have := h1.low j _ q hj; omega
      have a2 : ¬ r2 ≤ j := fun q => by have := h2.high j _ q hj; omega
      omega
    · rw [cut_none hc] at hn; cases hn
/-- a key's places in a stretch -/
def Occ (rs : List Rd) (lo hi : Nat) (k : Str) (i : Nat) : Prop := lo ≤ i ∧ i < hi ∧ ∃ v, rs[i]? = some (.ok k v)
theorem rk_inj {k k' : Str} (h : k ∈ keysL) (h' : k' ∈ keysL) (e : rk k = rk k') : k = k' := by
  have : ∀ x ∈ keysL, ∀ y ∈ keysL, rk x = rk y → x = y := by decide +kernel
  exact this k h k' h' e
theorem row_in {rs : List Rd} {rows : List (Str × Int)} {fs : List Int} (I : Idx rs rows fs) {lo hi r1 r2 : Nat} (hhi : hi ≤ 5) {k : Str} (hk : k ∈ keysL) (h1 : LeftAt (rows.map code) (code (k, (lo : Int))) r1) (h2 : RightAt (rows.map code) (code (k, (hi : Int) - 1)) r2) {j : Nat} (a : r1 ≤ j) (b : j < r2) :
    ∃ i : Nat, rows[j]? = some (k, (i : Int)) ∧ Occ rs lo hi k i := by
  have hj : j < (rows.map code).length := Nat.lt_of_lt_of_le b h2.le
  have hj' : j < rows.length := by simpa using hj
  have hg := List.getElem?_eq_getElem hj
  have c1 := h1.high j _ a hg
  have c2 := h2.low j _ b hg
  have hr := List.getElem?_eq_getElem hj'
  have e : (rows.map code)[j] = code rows[j] := by simp
  rw [e] at c1 c2
  have hm := (I.mem rows[j]).mp (List.getElem_mem hj')
  obtain ⟨i, v, q1, q2⟩ := hm
  have hi5 := (List.getElem?_eq_some_iff.mp q1).1
  have hl := I.len
  have hkk := I.keys _ v (List.mem_of_getElem? q1)
  have c3 : ∀ x ∈ keysL, 0 ≤ rk x ∧ rk x ≤ 2 := by decide +kernel
  have d1 := c3 _ hkk
  have d2 := c3 _ hk
  unfold code at c1 c2
  dsimp only at c1 c2
  have hrk : rk rows[j].1 = rk k := by omega
  have hkey := rk_inj hkk hk hrk
  refine ⟨i, ?_, ?_, ?_, v, by rw [← hkey]; exact q1⟩
  · rw [hr, ← hkey, ← q2]
  · omega
  · omega
theorem occ_in {rs : List Rd} {rows : List (Str × Int)} {fs : List Int} (I : Idx rs rows fs) {lo hi r1 r2 : Nat} {k : Str} (h1 : LeftAt (rows.map code) (code (k, (lo : Int))) r1) (h2 : RightAt (rows.map code) (code (k, (hi : Int) - 1)) r2) {i : Nat} (h : Occ rs lo hi k i) :
    ∃ j, r1 ≤ j ∧ j < r2 ∧ rows[j]? = some (k, (i : Int)) := by
  obtain ⟨a, b, v, hv⟩ := h
  obtain ⟨j, hj⟩ := List.mem_iff_getElem?.mp ((I.mem (k, (i : Int))).mpr ⟨i, v, hv, rfl⟩)
  have hc : (rows.map code)[j]? = some (code (k, (i : Int))) := by rw [List.getElem?_map, hj]; rfl
  refine ⟨j, ?_, ?_, hj⟩
  · refine Nat.le_of_not_lt fun q => ?_
    have := h1.low j _ q hc
    unfold code at this; dsimp only at this; omega
  · refine Nat.lt_of_not_le fun q => ?_
    have := h2.high j _ q hc
    unfold code at this; dsimp only at this; omega
/-- the first and the last place of a key -/
def Ends (rs : List Rd) (lo hi : Nat) (k : Str) (x : Int × Int) : Prop :=
  ∃ i j : Nat, x = ((i : Int), (j : Int)) ∧ Occ rs lo hi k i ∧ Occ rs lo hi k j ∧ ∀ n, Occ rs lo hi k n → i ≤ n ∧ n ≤ j
theorem row_order {rs : List Rd} {rows : List (Str × Int)} {fs : List Int} (I : Idx rs rows fs) {j j' : Nat} {k : Str} {a b : Int} (h : rows[j]? = some (k, a)) (h' : rows[j']? = some (k, b)) (hjj : j ≤ j') : a ≤ b := by
  rcases Nat.lt_or_eq_of_le hjj with q | q
  · have hc : (rows.map code)[j]? = some (code (k, a)) := by rw [List.getElem?_map, h]; rfl
    have hc' : (rows.map code)[j']? = some (code (k, b)) := by rw [List.getElem?_map, h']; rfl
    have := sorted_get I.srt hc hc' q
    unfold code at this; dsimp only at this; omega
  · subst q
    rw [h] at h'
    have := congrArg Prod.snd (Option.some.inj h')
    dsimp only at this; omega
theorem key_yes {rs : List Rd} {rows : List (Str × Int)} {fs : List Int} (I : Idx rs rows fs) {lo hi r1 r2 : Nat} (hhi : hi ≤ 5) {k : Str} (hk : k ∈ keysL) (h1 : LeftAt (rows.map code) (code (k, (lo : Int))) r1) (h2 : RightAt (rows.map code) (code (k, (hi : Int) - 1)) r2) (h : r1 < r2) :
    ∃ x : Int × Int, rows[r1]? = some (k, x.1) ∧ rows[r2 - 1]? = some (k, x.2) ∧ Ends rs lo hi k x := by
  obtain ⟨i, g1, o1⟩ := row_in I hhi hk h1 h2 (Nat.le_refl _) h
  obtain ⟨j, g2, o2⟩ := row_in I hhi hk h1 h2 (j := r2 - 1) (by omega) (by omega)
  refine ⟨((i : Int), (j : Int)), g1, g2, i, j, rfl, o1, o2, fun n hn => ?_⟩
  obtain ⟨q, b1, b2, g3⟩ := occ_in I h1 h2 hn
  have c1 := row_order I g1 g3 b1
  have c2 := row_order I g3 g2 (by omega)
  omega
theorem key_no {rs : List Rd} {rows : List (Str × Int)} {fs : List Int} (I : Idx rs rows fs) {lo hi r1 r2 : Nat} {k : Str} (h1 : LeftAt (rows.map code) (code (k, (lo : Int))) r1) (h2 : RightAt (rows.map code) (code (k, (hi : Int) - 1)) r2) (h : ¬ r1 < r2) : ∀ i, ¬ Occ rs lo hi k i := by
  intro i hi'
  obtain ⟨q, b1, b2, _⟩ := occ_in I h1 h2 hi'
  omega
/-- what is found for some keys -/
structure Found (rs : List Rd) (lo hi : Nat) (ks : List Str) (fl : List (Str × (Int × Int))) : Prop where
  has : ∀ x ∈ fl, x.1 ∈ ks ∧ Ends rs lo hi x.1 x.2
  all : ∀ k ∈ ks, ∀ i, Occ rs lo hi k i → ∃ x ∈ fl, x.1 = k
  nd : (fl.map (·.1)).Nodup
theorem Found.nil {rs : List Rd} {lo hi : Nat} : Found rs lo hi [] [] := ⟨(fun _ h => nomatch h), (fun _ h => nomatch h), .nil⟩
theorem Found.yes {rs : List Rd} {lo hi : Nat} {ks : List Str} {fl : List (Str × (Int × Int))} {k : Str} {x : Int × Int} (H : Found rs lo hi ks fl) (hk : k ∉ ks) (hx : Ends rs lo hi k x) : Found rs lo hi (ks ++ [k]) (fl ++ [(k, x)]) := by
  refine ⟨fun y hy => ?_, fun k' hk' i hi' => ?_, ?_⟩
  · rcases List.mem_append.mp hy with h | h
    · exact ⟨List.mem_append_left _ (H.has y h).1, (H.has y h).2⟩
    · rw [List.mem_singleton.mp h]; exact ⟨by simp, hx⟩
  · rcases List.mem_append.mp hk' with h | h
    · obtain ⟨y, h1, h2⟩ := H.all k' h i hi'
      exact ⟨y, List.mem_append_left _ h1, h2⟩
    · exact ⟨(k, x), by simp, (List.mem_singleton.mp h).symm⟩
  · rw [List.map_append]
    refine List.nodup_append.mpr ⟨H.nd, by simp, fun a ha b hb e => ?_⟩
    obtain ⟨y, hy, rfl⟩ := List.mem_map.mp ha
    have hb' : b = k := by simpa using hb
    exact hk (hb' ▸ e ▸ (H.has y hy).1)
theorem Found.no {rs : List Rd} {lo hi : Nat} {ks : List Str} {fl : List (Str × (Int × Int))} {k : Str} (H : Found rs lo hi ks fl) (hx : ∀ i, ¬ Occ rs lo hi k i) : Found rs lo hi (ks ++ [k]) fl := by
  refine ⟨fun y hy => ⟨List.mem_append_left _ (H.has y hy).1, (H.has y hy).2⟩, fun k' hk' i hi' => ?_, H.nd⟩
  rcases List.mem_append.mp hk' with h | h
  · exact H.all k' h i hi'
  · rw [List.mem_singleton.mp h] at hi'; exact absurd hi' (hx i)
theorem Found.firsts {rs : List Rd} {lo hi : Nat} {ks : List Str} {fl : List (Str × (Int × Int))} (H : Found rs lo hi ks fl) : ((fl.map (·.2)).map (·.1)).Nodup := by
  rw [List.map_map]
  have h := H.nd
  refine List.pairwise_map.mpr (List.Pairwise.imp_of_mem (fun {x y} hx hy hne e => hne ?_) (List.pairwise_map.mp h))
  obtain ⟨i, j, e1, ⟨_, _, v, hv⟩, _⟩ := (H.has x hx).2
  obtain ⟨i', j', e2, ⟨_, _, v', hv'⟩, _⟩ := (H.has y hy).2
  simp only [Function.comp, e1, e2] at e
  have : i = i' := by omega
  subst this
  rw [hv] at hv'
  exact (Rd.ok.inj (Option.some.inj hv')).1

def isKey (k : Str) : Rd → Bool
  | .ok k' _ => decide (k' = k)
  | .bad _ => false
theorem isKey_iff {k : Str} {r : Rd} : isKey k r = true ↔ ∃ v, r = .ok k v := by
  cases r with
  | bad b => simp [isKey]
  | ok k' v => simp [isKey]
def posOf (l : List Rd) (k : Str) : Nat := l.findIdx (isKey k)
theorem posOf_at {l : List Rd} {k : Str} {n : Nat} {v : Str} (h : l[n]? = some (.ok k v)) (hn : ∀ i, i < n → ∀ v, l[i]? ≠ some (.ok k v)) : posOf l k = n := by
  unfold posOf
  have hl := (List.getElem?_eq_some_iff.mp h).1
  refine (List.findIdx_eq hl).mpr ⟨?_, fun j hj => ?_⟩
  · exact isKey_iff.mpr ⟨v, (List.getElem?_eq_some_iff.mp h).2⟩
  · cases e : isKey k l[j] with
    | false => rfl
    | true =>
      obtain ⟨v', hv⟩ := isKey_iff.mp e
      exact absurd (by rw [List.getElem?_eq_getElem (by omega), hv]) (hn j hj v')
theorem posOf_get {l : List Rd} {k : Str} (h : k ∈ keysOf l) : ∃ v, l[posOf l k]? = some (.ok k v) := by
  obtain ⟨v, hv⟩ := key_in h
  have hlt : posOf l k < l.length := List.findIdx_lt_length_of_exists ⟨_, hv, isKey_iff.mpr ⟨v, rfl⟩⟩
  obtain ⟨v', e⟩ := isKey_iff.mp (List.findIdx_getElem (w := hlt))
  exact ⟨v', by rw [List.getElem?_eq_getElem hlt]; exact congrArg some e⟩
theorem posOf_append {a : List Rd} {k : Str} (h : k ∈ keysOf a) (r : Rd) : posOf (a ++ [r]) k = posOf a k := by
  obtain ⟨v, hv⟩ := key_in h
  have hlt : posOf a k < a.length := List.findIdx_lt_length_of_exists ⟨_, hv, isKey_iff.mpr ⟨v, rfl⟩⟩
  unfold posOf at hlt ⊢
  rw [List.findIdx_append, if_pos hlt]
theorem keysOf_sorted (rs : List Rd) : (keysOf rs).Pairwise fun k k' => posOf rs k < posOf rs k' := by
  suffices H : ∀ n (rs : List Rd), rs.length = n → (keysOf rs).Pairwise fun k k' => posOf rs k < posOf rs k' from H _ rs rfl
  intro n
  induction n with
  | zero => intro rs h; rw [List.length_eq_zero_iff.mp h]; exact .nil
  | succ n ih =>
    intro rs h
    obtain ⟨a, r, rfl⟩ : ∃ a r, rs = a ++ [r] := ⟨rs.dropLast, rs.getLast (by intro e; rw [e] at h; simp at h), (List.dropLast_concat_getLast _).symm⟩
    have h1 := ih a (by simpa using h)
    have h2 : (keysOf a).Pairwise fun k k' => posOf (a ++ [r]) k < posOf (a ++ [r]) k' := h1.imp_of_mem fun {x y} hx hy hxy => by rw [posOf_append hx, posOf_append hy]; exact hxy
    rw [keysOf_snoc]
    cases r with
    | bad b => exact h2
    | ok k v =>
      show (if k ∈ keysOf a then keysOf a else keysOf a ++ [k]).Pairwise _
      by_cases hm : k ∈ keysOf a
      · rw [if_pos hm]; exact h2
      · rw [if_neg hm]
        refine List.pairwise_append.mpr ⟨h2, List.pairwise_singleton .., fun x hx y hy => ?_⟩
        rw [List.mem_singleton.mp hy, posOf_append hx]
        obtain ⟨v', hv'⟩ := posOf_get hx
        have hlt := (List.getElem?_eq_some_iff.mp hv').1
        have e : posOf (a ++ [Rd.ok k v]) k = a.length := by
          refine posOf_at (v := v) (by simp) fun i hi v' e => ?_
          rw [List.getElem?_append_left hi] at e
          exact hm ((keysOf_mem a k).mpr (List.ne_nil_of_mem (List.mem_filterMap.mpr ⟨_, List.mem_of_getElem? e, by simp [valStep]; rfl⟩)))
        rw [e]; exact hlt
theorem vals_mem {l : List Rd} {k v : Str} (h : Rd.ok k v ∈ l) : k ∈ keysOf l := (keysOf_mem l k).mpr (List.ne_nil_of_mem (List.mem_filterMap.mpr ⟨_, h, if_pos rfl⟩))
theorem lastOf_at {l : List Rd} {k v : Str} {n : Nat} (h : l[n]? = some (.ok k v)) (hn : ∀ i, n < i → ∀ v, l[i]? ≠ some (.ok k v)) : lastOf l k = v := by
  have hl := (List.getElem?_eq_some_iff.mp h).1
  have e : l = l.take n ++ (.ok k v :: l.drop (n + 1)) := by
    have : l[n] = .ok k v := (List.getElem?_eq_some_iff.mp h).2
    rw [← this]; simp
  have hd : valsOf (l.drop (n + 1)) k = [] := by
    refine List.filterMap_eq_nil_iff.mpr fun r hr => ?_
    obtain ⟨i, hi⟩ := List.mem_iff_getElem?.mp hr
    rw [List.getElem?_drop] at hi
    cases r with
    | bad b => rfl
    | ok k' v' =>
      refine if_neg fun q => ?_
      subst q
      exact hn (n + 1 + i) (by omega) v' hi
  unfold lastOf
  rw [e, valsOf_append]
  have e2 : valsOf (.ok k v :: l.drop (n + 1)) k = [v] := by
    have : valsOf (.ok k v :: l.drop (n + 1)) k = v :: valsOf (l.drop (n + 1)) k := by
      unfold valsOf
      rw [List.filterMap_cons]
      have : valStep k (.ok k v) = some v := if_pos rfl
      rw [this]
    rw [this, hd]
  rw [e2]
  simp
theorem map_inj_on {α β : Type} {f : α → β} : ∀ {l1 l2 : List α}, l1.map f = l2.map f → (∀ a ∈ l1, ∀ b ∈ l2, f a = f b → a = b) → l1 = l2
  | [], [], _, _ => rfl
  | [], _ :: _, h, _ => by simp at h
  | _ :: _, [], h, _ => by simp at h
  | a :: l1, b :: l2, h, i => by
    simp only [List.map_cons, List.cons.injEq] at h
    rw [i a (.head _) b (.head _) h.1, map_inj_on h.2 fun x hx y hy => i x (.tail _ hx) y (.tail _ hy)]
def rdAt (rs : List Rd) (p : Int) : Rd := rs[p.toNat]?.getD (.bad false)
def keyAt : Rd → Str
  | .ok k _ => k
  | .bad _ => Str.ofString ""
theorem told_final {rs : List Rd} {lo hi : Nat} (hk : ∀ k v, Rd.ok k v ∈ rs → k ∈ keysL) {fl : List (Str × (Int × Int))} (H : Found rs lo hi keysL fl) {xs : List (Int × Int)} (hs : Sorted (xs.map (·.1))) (hm : ∀ x, x ∈ xs ↔ x ∈ fl.map (·.2)) :
    xs.map (fun x => rdAt rs x.2) = (keysOf (cutR rs lo hi)).map (fun k => Rd.ok k (lastOf (cutR rs lo hi) k)) := by
  have hx : ∀ x ∈ xs, ∃ k v, Ends rs lo hi k x ∧ rdAt rs x.2 = .ok k v ∧ x.1 = (lo : Int) + posOf (cutR rs lo hi) k ∧ lastOf (cutR rs lo hi) k = v ∧ k ∈ keysOf (cutR rs lo hi) := by
    intro x hx
    obtain ⟨y, hy, rfl⟩ := List.mem_map.mp ((hm x).mp hx)
    obtain ⟨i, j, e, o1, o2, o3⟩ := (H.has y hy).2
    obtain ⟨a1, a2, v1, hv1⟩ := o1
    obtain ⟨b1, b2, v2, hv2⟩ := o2
    have c1 : (cutR rs lo hi)[i - lo]? = some (.ok y.1 v1) := by rw [cut_get (by omega), show lo + (i - lo) = i by omega]; exact hv1
    have c2 : (cutR rs lo hi)[j - lo]? = some (.ok y.1 v2) := by rw [cut_get (by omega), show lo + (j - lo) = j by omega]; exact hv2
    refine ⟨y.1, v2, (H.has y hy).2, ?_, ?_, ?_, vals_mem (List.mem_of_getElem? c1)⟩
    · rw [e]
      unfold rdAt
      rw [Int.toNat_natCast, hv2]; rfl
    · rw [e, posOf_at c1 fun n hn v q => ?_]
      · dsimp only; omega
      · rw [cut_get (by omega)] at q
        have := o3 (lo + n) ⟨by omega, by omega, v, q⟩
        omega
    · refine lastOf_at c2 fun n hn v q => ?_
      have hnl : n < hi - lo := by
        rcases Nat.lt_or_ge n (hi - lo) with z | z
        · exact z
        · rw [cut_none (by omega)] at q; cases q
      rw [cut_get hnl] at q
      have := o3 (lo + n) ⟨by omega, by omega, v, q⟩
      omega
  have e1 : xs.map (fun x => rdAt rs x.2) = (xs.map fun x => keyAt (rdAt rs x.2)).map (fun k => Rd.ok k (lastOf (cutR rs lo hi) k)) := by
    rw [List.map_map]
    refine List.map_congr_left fun x h => ?_
    obtain ⟨k, v, _, q1, _, q3, _⟩ := hx x h
    simp only [Function.comp]
    rw [q1]
    show _ = Rd.ok k (lastOf (cutR rs lo hi) k)
    rw [q3]
  rw [e1]
  congr 1
  refine map_inj_on (f := fun k => (lo : Int) + posOf (cutR rs lo hi) k) ?_ ?_
  · have f1 : (xs.map fun x => keyAt (rdAt rs x.2)).map (fun k => (lo : Int) + posOf (cutR rs lo hi) k) = xs.map (·.1) := by
      rw [List.map_map]
      refine List.map_congr_left fun x h => ?_
      obtain ⟨k, v, _, q1, q2, _, _⟩ := hx x h
      simp only [Function.comp]
      rw [q1]
      exact q2.symm
    rw [f1]
    refine sorted_ext hs (List.pairwise_map.mpr ((keysOf_sorted _).imp fun h => by omega)) fun z => ⟨fun hz => ?_, fun hz => ?_⟩
    · obtain ⟨x, h, rfl⟩ := List.mem_map.mp hz
      obtain ⟨k, v, _, _, q2, _, q4⟩ := hx x h
      exact List.mem_map.mpr ⟨k, q4, q2.symm⟩
    · obtain ⟨k, h, rfl⟩ := List.mem_map.mp hz
      obtain ⟨v, hv⟩ := posOf_get h
      have hlt : posOf (cutR rs lo hi) k < hi - lo := by
        rcases Nat.lt_or_ge (posOf (cutR rs lo hi) k) (hi - lo) with z | z
        · exact z
        · rw [cut_none (by omega)] at hv; cases hv
      rw [cut_get hlt] at hv
      obtain ⟨y, hy, ey⟩ := H.all k (hk k v (List.mem_of_getElem? hv)) _ ⟨by omega, by omega, v, hv⟩
      refine List.mem_map.mpr ⟨y.2, (hm _).mpr (List.mem_map_of_mem hy), ?_⟩
      obtain ⟨k', v', q0, q1, q2, _, _⟩ := hx y.2 ((hm _).mpr (List.mem_map_of_mem hy))
      rw [q2]
      have : k' = k := by
        obtain ⟨i, j, e, ⟨_, _, va, ha⟩, _⟩ := q0
        obtain ⟨i', j', e', ⟨_, _, vb, hb⟩, _⟩ := (H.has y hy).2
        rw [e] at e'
        have : i = i' := by have := congrArg Prod.fst e'; dsimp only at this; omega
        subst this
        rw [ha] at hb
        rw [← ey]
        exact (Rd.ok.inj (Option.some.inj hb)).1
      rw [this]
  · intro a ha b hb e
    have e' : posOf (cutR rs lo hi) a = posOf (cutR rs lo hi) b := by omega
    obtain ⟨x, hx', rfl⟩ := List.mem_map.mp ha
    obtain ⟨k, v, _, q1, _, _, q4⟩ := hx x hx'
    rw [q1] at e' ⊢
    obtain ⟨v1, h1⟩ := posOf_get q4
    obtain ⟨v2, h2⟩ := posOf_get hb
    have e2 : posOf (cutR rs lo hi) k = posOf (cutR rs lo hi) b := e'
    rw [e2, h2] at h1
    exact (Rd.ok.inj (Option.some.inj h1)).1.symm
end Mine
end
section
open PySem PySem.W PyProof.Rows PySem.Calls PySem.Spec
set_option Elab.async false
set_option maxRecDepth 100000
set_option maxHeartbeats 8000000
namespace Mine
section
variable {prog : Program} {w : World} {E : Value → Shared → Prop} {s : Shared} {K : Frag} {L : Addr} {h₀ base : Heap} {m mg mb : Str → Option Value} {news : List (Addr × Obj)} {p : Program} {loose : List Str} {mean : ExcName → Option Value} {Q : Value → Shared → Prop} {A₀ A : Around}
  {dp un : Nat} {gd : Option (List Code)} {cn : Str} {cs : Scope} {a : Addr} {ccd : Value} {cl : List (Str × Addr)} {outer : List Env} {env : Env}
/-- a def with captured names that calls one that catches -/
theorem enter_defCS {name qual : Str} {params : Arguments} {body : List Stmt} {scope : Scope} {dV kV doc pm cdv ct oc : Value} {an od : Option Addr} {osl : Array (Option Value)} {f : Addr} {args : List Value} (binds : List (Str × Value))
    (B : Below A₀ base outer h₀) (F : Fr h₀ L s.heap m) (X : K.In h₀) (N : News h₀ L s.heap news) (T : Top p loose mean mg mb h₀) (XB : K.In base) (TB : Top p loose mean mg mb base) (D : KtsDicts (outer.filterMap (·.frame)) h₀) (hk : cs.kind = .function)
    (ho : K.lookup f = some ⟨oc, od, .func (fnOf name qual params body scope dV kV doc pm an cdv ct), osl⟩) (hcd : codeIn K cdv qual = true) (hroom : dp < recursionLimit)
    (hbind : BindsTo s (fnOf name qual params body scope dV kV doc pm an cdv ct) ⟨args, []⟩ binds)
    (hkind : ∀ n, ∀ x ∈ binds, scope.names.lookup x.1 = some .local ∨ (scope.names.lookup x.1 = some .cell ∧ ((cellsFrom n scope.names []).lookup x.1).isSome = true))
    (hnd : ((cellsFrom 0 scope.names []).map (·.1)).Nodup)
    (hco : scope.isCoroutine = false) (hgen : scope.isGenerator = false) (hk2 : scope.kind = .function)
    (h : ∀ g L' h₁ tk cells, Fr h₀ L g m → Fr g L' h₁ (bindL (envOfC qual scope L' f cdv).kindOf binds fun _ => none) → News g L' h₁ (cells ++ news) → CellsAre (bindC (envOfC qual scope L' f cdv).kindOf binds fun _ => none) (cellsFrom (L' + 1) scope.names []) cells →
      Below (ktrTop dp un gd cn cs L a ccd cl outer) base (envX cn cs L a ccd cl :: outer) g → K.In g → Top p loose mean mg mb g → KtsDicts ((envX cn cs L a ccd cl :: outer).filterMap (·.frame)) g → (∀ p ∈ news, p.1 < L') →
      wpAny (model prog w) ((ktrTop dp un gd cn cs L a ccd cl outer).deeper (envOfC qual scope L' f cdv)) (execs body (envOfC qual scope L' f cdv))
        (fun fl s' => LeaveS ((envX cn cs L a ccd cl :: outer).filterMap (·.frame)) A₀ base outer K p loose mean mg mb h₀ h₀ L m g (fun r s' => match r with | .ok (.ret v) => Q v s' | .ok _ => False | .error e => E e s') (match fl with | .ret v => v | _ => .none) s')
        (fun e s' => wpAny (model prog w) ((ktrTop dp un gd cn cs L a ccd cl outer).deeper (envOfC qual scope L' f cdv)) (leaving (envOfC qual scope L' f cdv) e) (fun _ s'' => E e s'') (fun e' s'' => E e' s'') s')
        { s with heap := h₁, toks := tk }) :
    wpAny (model prog w) (ktrTop dp un gd cn cs L a ccd cl outer) (call (.ref f) args) Q E s := by
  have X₁ := X.keeps F.keep
  have hf : (envX cn cs L a ccd cl).frame = some L := rfl
  obtain ⟨oL, es, ep, hLg, hLd, hN, hNs, st, B₂⟩ := groundS (A := ktrTop dp un gd cn cs L a ccd cl outer) (env := envX cn cs L a ccd cl) B F N rfl hf hk
  refine wpAny_call (codeAny_call_function hroom (X₁ _ _ ho) rfl hco hgen rfl (codeRec_of X₁ hcd) (hbind _ _ _ _ ?_))
  refine wpAny_newFunctionEnv_cells hk2 (hkind _) fun env' he s' x => ?_
  subst he
  refine ⟨(T.nolimit.keeps F.keep).keeps x.toInCall.keep, codeAny_func ?_⟩
  obtain ⟨h₁, tk, rfl, _⟩ := x.done
  have hk₁ := x.toInCall.keep
  obtain ⟨cells, NC, Y⟩ := Cl.news (h₀ := s.heap) (Nat.le_refl _) fun n c hm => ⟨x.cell n c (lookup_of_mem_nodup (cellsFrom_names scope.names 0 (s.heap.objs.size + 1) [] [] rfl ▸ hnd) hm), x.above n c hm⟩
  refine wpAny_mono (h _ s.heap.objs.size h₁ tk cells ⟨hN _ hLg, st, F.above⟩ ⟨x.toInCall.ns, fun b o e => hk₁ b o (of_hideAll _ e), Nat.le_of_eq (hideAll_size _ _)⟩
    (fun p hp => ?_) Y B₂ (X.keeps st) (T.keeps st) (fun b hb => by
      rcases memX hf hb with rfl | hb
      · exact ⟨oL, es, ep, hLg, hLd⟩
      · obtain ⟨o, es', n', ho', hd'⟩ := D b hb
        exact ⟨o, es', n', st b o ho', hd'⟩) (fun p hp => Heap.lt_size (N p hp).1)) (fun fl s' hl => ?_) fun _ _ y => y
  · rcases List.mem_append.mp hp with hp | hp
    · refine ⟨(NC p hp).1, (NC p hp).2.1, ?_⟩
      cases q : (hideAll s.heap (news.map (·.1))).get? p.1 with
      | none => rfl
      | some o => have := of_hideAll _ q; rw [(NC p hp).2.2] at this; cases this
    · exact ⟨hk₁ _ _ (N p hp).1, Nat.ne_of_lt (Heap.lt_size (N p hp).1), hideAll_none _ (List.mem_map_of_mem hp)⟩
  have nL₀ : h₀.get? L = none := kts_self F
  rcases hl with ⟨L', m', news', F', N', k⟩ | ⟨g', L', m', news', T', F', N', k⟩
  · refine k ⟨hN _ (F'.keep _ _ hLg), fun b o e => F'.keep b o (st b o e), F.above⟩ fun p hp => ⟨(N' p hp).1, fun q => ?_, ?_⟩
    · have := (N' p hp).2.2; rw [q, hLg] at this; cases this
    · cases q : h₀.get? p.1 with
      | none => rfl
      | some o => have := (N' p hp).2.2; rw [st _ _ q] at this; cases this
  obtain ⟨sl, hs⟩ := T'.up hLg
  obtain ⟨T₁, S₁⟩ := kts_turn_at (h := s'.heap) (fs := outer.filterMap (·.frame)) (g := h₀)
    (fun b hb => by
      obtain ⟨_, o, ho', _⟩ := B.frames.mem hb
      exact ⟨o, ho'⟩)
    (fun b o e nmem => F'.keep b o (T'.other b o (st b o e) (fun q => by
      rcases memX hf q with z | z
      · rw [z, nL₀] at e
        cases e
      · exact nmem z)))
    (fun b o e hm => by
      obtain ⟨sl', hs'⟩ := T'.up (st b o e)
      exact ⟨sl', F'.keep _ _ hs'⟩)
  have B₃ : Below A₀ base outer (ktsHeap s'.heap (outer.filterMap (·.frame)) h₀) := ⟨B.stack, fun b o e => T₁.other b o (B.stays b o e) (fun hm => by
    rw [(B.frames.mem hm).1] at e
    cases e), B.frames.of_keeps fun b o e _ => by
    obtain ⟨sl', hs'⟩ := T₁.up e
    exact ⟨_, hs', rfl⟩⟩
  refine k _ T₁ ⟨hNs sl _ (F'.keep _ _ hs), S₁, by rw [T₁.size]; exact F.above⟩ (fun p hp => ⟨(N' p hp).1, fun q => ?_, ?_⟩) B₃ (XB.keeps B₃.stays) (TB.keeps B₃.stays) (D.turn T₁)
  · have := (N' p hp).2.2; rw [q, hs] at this; cases this
  · refine T₁.none_ _ ?_
    cases q : h₀.get? p.1 with
    | none => rfl
    | some o =>
      obtain ⟨sl', hs'⟩ := T'.up (st _ _ q)
      have := (N' p hp).2.2
      rw [hs'] at this
      cases this
end
end Mine
end
section
open PySem PySem.W PyProof.Rows PySem.Calls PySem.Spec PyProof.V PyProof.Rows.LCg
set_option Elab.async false
set_option maxRecDepth 100000
set_option maxHeartbeats 8000000
set_option pp.deepTerms false
set_option pp.proofs false
namespace Mine
section
variable {w : World} {s : Shared} {L : Addr} {m : Str → Option Value} {l : Addr} {xv : Value}
theorem br_two {h₀ : Heap} {X : (hd.heap_39 w.params).In h₀} (F : Fr h₀ L s.heap m) : BindsTo s (fdAt w 39) ⟨[.ref l, xv], []⟩ [(Str.ofString "a", .ref l), (Str.ofString "x", xv), (Str.ofString "lo", .int 0 215), (Str.ofString "hi", .none), (Str.ofString "key", .none)] :=
  kp_binds (X.keeps F.keep) (fun _ => by kernel_rfl)
end
theorem strs_get {vs : List Value} {ts : List Str} (h : StrsAre vs ts) : ∀ {i : Nat} {t : Str}, ts[i]? = some t → ∃ u, vs[i]? = some (.str t u) := by
  induction h with
  | nil => intro i t h; simp at h
  | cons y u _ ih =>
    intro i t h
    cases i with
    | zero => exact ⟨u, by simpa using h⟩
    | succ i => exact ih (i := i) (by simpa using h)
theorem strs_at {vs : List Value} {ts : List Str} (h : StrsAre vs ts) : ∀ {i : Nat} {v : Value}, vs[i]? = some v → ∃ t u, ts[i]? = some t ∧ v = .str t u := by
  induction h with
  | nil => intro i v h; simp at h
  | cons y u _ ih =>
    intro i v h
    cases i with
    | zero => exact ⟨y, u, rfl, by simpa using h.symm⟩
    | succ i => exact ih (i := i) (by simpa using h)
theorem key_new {i : Nat} {k : Str} (h : keysL[i]? = some k) : k ∉ keysL.take i ∧ k ∈ keysL ∧ keysL.take (i + 1) = keysL.take i ++ [k] := by
  have hi : i < 3 := (List.getElem?_eq_some_iff.mp h).1
  refine ⟨?_, List.mem_of_getElem? h, by rw [List.take_add_one, h]; rfl⟩
  have e : i = 0 ∨ i = 1 ∨ i = 2 := by omega
  rcases e with rfl | rfl | rfl <;> (cases h; decide)
def tM (Fd lx : Addr) (lo hi : Int) (t1 t2 : Tok) (u : Str → Option Value) : Str → Option Value := fun y =>
  if y = Str.ofString "found" then some (.ref Fd) else if y = Str.ofString "index" then some (.ref lx) else if y = Str.ofString "low" then some (.int lo t1) else if y = Str.ofString "high" then some (.int hi t2) else u y
theorem tM_eq {Fd lx : Addr} {lo hi : Int} {t1 t2 : Tok} {m : Str → Option Value} (e1 : m (Str.ofString "found") = some (.ref Fd)) (e2 : m (Str.ofString "index") = some (.ref lx)) (e3 : m (Str.ofString "low") = some (.int lo t1)) (e4 : m (Str.ofString "high") = some (.int hi t2)) : m = tM Fd lx lo hi t1 t2 m := funext fun y => by
  unfold tM
  by_cases a : y = Str.ofString "found"
  · rw [if_pos a, a]; exact e1
  · rw [if_neg a]
    by_cases b : y = Str.ofString "index"
    · rw [if_pos b, b]; exact e2
    · rw [if_neg b]
      by_cases c : y = Str.ofString "low"
      · rw [if_pos c, c]; exact e3
      · rw [if_neg c]
        by_cases d : y = Str.ofString "high"
        · rw [if_pos d, d]; exact e4
        · rw [if_neg d]
theorem tM_of {h₀ h : Heap} {L Fd lx : Addr} {lo hi : Int} {t1 t2 : Tok} {m : Str → Option Value} (F : Fr h₀ L h m) (e1 : m (Str.ofString "found") = some (.ref Fd)) (e2 : m (Str.ofString "index") = some (.ref lx)) (e3 : m (Str.ofString "low") = some (.int lo t1)) (e4 : m (Str.ofString "high") = some (.int hi t2)) : Fr h₀ L h (tM Fd lx lo hi t1 t2 m) := tM_eq e1 e2 e3 e4 ▸ F
local macro_rules | `(tactic| k_room) => `(tactic| ktr_room)
local macro_rules | `(tactic| k_mem) => `(tactic| first | assumption | (refine List.mem_cons_of_mem _ ?_; k_mem))
local macro_rules | `(tactic| walk_at $k:str) => if k.getString ∈ ["call ref", "subscriptTail", "eval ListComp", "pyIter ref", "exec For Name List cons nil", "call builtin:list.append", "call builtin:sorted"] then `(tactic| refine wait_at ?_) else Lean.Macro.throwUnsupported
local macro_rules | `(tactic| walk_at "UnrEndW") => `(tactic| fail)
section
variable {w : World} {mean : ExcName → Option Value} {mg mb : Str → Option Value} {dp un : Nat} {gd : Option (List Code)} {cn : Str} {cs : Scope} {a : Addr} {ccd : Value} {cl : List (Str × Addr)} {outer : List Env} {A₀ : Around} {base h₀ : Heap} {L : Addr} {m : Str → Option Value} {news : List (Addr × Obj)} {s : Shared} {Q E : Value → Shared → Prop}
theorem told_spec {li lx lf : Addr} {ivs xvs fvs : List Value} {ni nx nf : Nat} {ts : List Str} {rs : List Rd} {rows : List (Str × Int)} {fs : List Int} {lo hi : Nat} {t1 t2 : Tok}
   (B : Below A₀ base outer h₀) (F : Fr h₀ L s.heap m) (X : (hd.heap_39 w.params).In h₀) (N : News h₀ L s.heap news) (T : Top hd.view_39 LW mean mg mb h₀) (XB : (hd.heap_39 w.params).In base) (TB : Top hd.view_39 LW mean mg mb base) (D : KtsDicts (outer.filterMap (·.frame)) h₀) (hk : cs.kind = .function)
   (hli : (li, listOf ivs.toArray ni) ∈ news) (hiv : StrsAre ivs ts) (hs : ts.map parse1 = rs.map some) (hln : ∀ t ∈ ts, t.length ≤ 16)
   (hlx : (lx, listOf xvs.toArray nx) ∈ news) (hxv : DatAll news xvs (rows.map rowDat))
   (hlf : (lf, listOf fvs.toArray nf) ∈ news) (hfv : IntsAre fvs fs) (I : Idx rs rows fs) (h1 : lo ≤ hi) (h2 : hi ≤ 5)
   (hdp : dp + 6 < recursionLimit) (hu : un + 120 < cLine)
   (bad : ∀ b kg h' tk' t, firstBad (cutR rs lo hi) = some b → KtsTurn (outer.filterMap (·.frame)) h₀ kg → Fr kg L h' m → News kg L h' news → Below A₀ base outer kg → (hd.heap_39 w.params).In kg → Top hd.view_39 LW mean mg mb kg → KtsDicts (outer.filterMap (·.frame)) kg → Q (.str (Str.ofString (errS b)) t) { s with heap := h', toks := tk' })
   (good : ∀ b vs' tl h' tk', firstBad (cutR rs lo hi) = none → Fr h₀ L h' m → News h₀ L h' tl → (∀ p ∈ news, p ∈ tl) → (b, lst vs') ∈ tl → DatAll tl vs' ((pairs (cutR rs lo hi)).map pairDat) → Q (.ref b) { s with heap := h', toks := tk' }) :
   wpAny (model PySem.Challenge.rw_pg0107_01.row.prog w) (ktrTop dp un gd cn cs L a ccd cl outer) (call (.ref 90) [.ref li, .ref lx, .ref lf, .int lo t1, .int hi t2]) Q E s := by
  revert X; k_fill; intro X
  k_dflt (refine enter_defCS [(Str.ofString "items", .ref li), (Str.ofString "index", .ref lx), (Str.ofString "faults", .ref lf), (Str.ofString "low", .int lo t1), (Str.ofString "high", .int hi t2)] B F X N T XB TB D hk (by k_is) (by k_is) (by ktr_room) (BindsTo.of_eq rfl) (by intro n x hx; simp only [List.mem_cons, List.not_mem_nil, or_false] at hx; rcases hx with rfl | rfl | rfl | rfl | rfl <;> first | exact .inl rfl | exact .inr ⟨rfl, rfl⟩) (by decide) rfl rfl rfl ?_)
  intro g L' h₁ tk cells FG F' N' Y B' X' T' D' lt'
  clear F N B X T D
  k_fold
  k_cells Y
  rename News g L' _ _ => lN
  rename Obj.data _ = _ => d1
  rename_i o1
  have D1 : o1.data = .cell (some (.ref li)) := d1
  clear d1
  have lF : Fr g L' h₁ (fun y => if y = Str.ofString "high" then some (.int hi t2) else if y = Str.ofString "low" then some (.int lo t1) else if y = Str.ofString "faults" then some (.ref lf) else if y = Str.ofString "index" then some (.ref lx) else none) := F'
  clear F'
  have hfl : fvs.length ≤ 64 := by rw [hfv.length]; have := I.flen; omega
  obtain ⟨bn, ebn⟩ : ∃ b, b = [(L' + 1, o1)] ++ news := ⟨_, rfl⟩
  rw [← ebn] at lN
  have sb : ∀ p ∈ news, p ∈ bn := fun p hp => by rw [ebn]; exact .tail _ hp
  have c1 : (L' + 1, o1) ∈ bn := by rw [ebn]; exact .head _
  have mi := sb _ hli
  have mx := sb _ hlx
  have mf := sb _ hlf
  w_top off
  k_steps
  refine Wait.mk ?_
  k_dflt (refine bl_gen (ltAt fs lo) (bl_two (X := X') lF) B' lF X' lN T' rfl mf (ints_cmp hfv) hfl (ltAt_mono I.fsrt _) (by ktr_room) (by ktr_units) ?_)
  intro r1 u1 h5 tk5 hr1 q1 q2 lF2 lN2
  clear lF lN
  have A1 : LeftAt fs lo r1 := .of (by have := hfv.length; omega) q1 (fun i a b => q2 i a (by have := hfv.length; omega))
  clear q1 q2
  k_steps
  refine Wait.mk ?_
  rename Fr g L' _ _ => lF
  rename News g L' _ _ => lN
  k_dflt (refine bl_gen (ltAt fs hi) (bl_two (X := X') lF) B' lF X' lN T' rfl mf (ints_cmp hfv) hfl (ltAt_mono I.fsrt _) (by ktr_room) (by ktr_units) ?_)
  intro r2 u2 h6 tk6 hr2 q1 q2 lF3 lN3
  clear lF lN
  have A2 : LeftAt fs hi r2 := .of (by have := hfv.length; omega) q1 (fun i a b => q2 i a (by have := hfv.length; omega))
  clear q1 q2
  by_cases hr : r1 < r2
  · obtain ⟨p, b, hp, hb, hfb⟩ := fault_yes I A1 A2 hr
    have hr' : (r1 : Int) < (r2 : Int) := by omega
    obtain ⟨tp, hpv⟩ := hfv.get r1 _ hp
    have hp5 : p < rs.length := (List.getElem?_eq_some_iff.mp hb).1
    have hl5 := I.len
    have hts : ts.length = rs.length := by simpa using congrArg List.length hs
    obtain ⟨tt, htt⟩ : ∃ t, ts[p]? = some t := ⟨_, List.getElem?_eq_getElem (by omega)⟩
    obtain ⟨ut, hut⟩ := strs_get hiv htt
    have hpt : parse1 tt = some (.bad b) := by
      have e := congrArg (fun l => l[p]?) hs
      simp only [List.getElem?_map, htt, hb, Option.map_some] at e
      exact Option.some.inj e
    k_steps
    refine Wait.mk ?_
    k_dflt (refine item_at lN3 mf (by omega) (by omega) hpv ?_ (by with_unfolding_all rfl))
    k_steps
    refine Wait.mk ?_
    k_dflt (refine item_at lN3 mi (by omega) (by omega) hut ?_ (by with_unfolding_all rfl))
    k_steps
    refine Wait.mk ?_
    rename Fr g L' _ _ => lF
    rename News g L' _ _ => lN
    k_dflt (refine read_spec (ts := [tt]) (rs := [.bad b]) B' lF X' lN T' XB TB D' rfl (.head _) (.cons tt ut .nil) (by simp [hpt]) (fun t ht => by rw [List.mem_singleton.mp ht]; exact hln _ (List.mem_of_getElem? htt)) (by show 1 ≤ 8; omega) (by ktr_room) (by ktr_units) ?_ ?_)
    · intro b' kg h' tk' t hb' kT F5 N5 B5 X5 T5 D5
      cases hb'
      dsimp only
      refine leaveS_r F5 N5 kT ?_
      intro h₀' T₁ F₆ N₆ B₆ X₆ T₆ D₆
      exact bad b h₀' _ _ _ hfb T₁ F₆ (fun p hp => N₆ p (.tail _ (sb p hp))) B₆ X₆ T₆ D₆
    · intro b' c vs' tups h' tk' hb'
      cases hb'
  · have hnb := fault_no I A1 A2 hr
    have hr' : ¬ (r1 : Int) < (r2 : Int) := by omega
    k_steps
    refine Wait.mk ?_
    rename Fr g L' _ _ => lF
    rename News g L' _ _ => lN
    rename_i Fd _ hFd _
    k_dflt (refine For_turns lF ?_ (by intro _; rfl) (by passes_own))
    k_steps
    refine Wait.mk ?_
    rename Fr g L' _ _ => lF
    rename News g L' _ _ => lN
    rename_i K3 h8 hK3
    obtain ⟨kvs, ekv⟩ : ∃ kvs : List Value, kvs = [.str (Str.ofString "k") tk, .str (Str.ofString "l") (tk + 1), .str (Str.ofString "") (tk + 1 + 1)] := ⟨_, rfl⟩
    have hkv : StrsAre kvs keysL := by rw [ekv]; exact .cons _ _ (.cons _ _ (.cons _ _ .nil))
    have lN' : News g L' h8 ((K3, listOf kvs.toArray 0) :: (Fd, listOf ([] : List Value).toArray 0) :: bn) := by rw [ekv]; exact lN
    have hk3 : kvs.length = 3 := by rw [ekv]; rfl
    clear ekv lN
    k_dflt (refine iter_listTurns (vs := kvs) rfl lF lN' (.head _) rfl rfl ?_)
    clear lF lN'
    intro I3 hI3
    refine items_ind (fun i m₁ nw => ∃ (fv : List Value) (n' : Nat) (fl : List (Str × (Int × Int))) (rest : List (Addr × Obj)) (u : Str → Option Value), (∀ p ∈ nw, p ∈ (Fd, listOf fv.toArray n') :: rest) ∧ (∀ p ∈ (Fd, listOf fv.toArray n') :: rest, p ∈ nw) ∧ (∀ p ∈ (K3, listOf kvs.toArray 0) :: bn, p ∈ rest) ∧ (∀ p ∈ rest, p.1 ≠ Fd) ∧ (∀ p ∈ rest, p.1 ≠ I3) ∧ DatAll rest fv (fl.map fun x => pairI x.2) ∧ Found rs lo hi (keysL.take i) fl ∧ fv.length ≤ i ∧ m₁ = tM Fd lx lo hi t1 t2 u) (kvs.map .val) ?_ ?_ ?_ ⟨.head _, trivial⟩
    · rintro i a v m₁ nw h tk ha hav ⟨fv, n', fl, rest, u, e1, e2, e3, e4, e5, hfv', hfound, hfvl, rfl⟩ hkp F oI hoI N
      obtain ⟨v', hv1, hv2⟩ : ∃ v', kvs[i]? = some v' ∧ Itm.val v' = a := by simpa using ha
      subst hv2
      cases hav
      obtain ⟨key, kt, hkey, rfl⟩ := strs_at hkv hv1
      obtain ⟨hknew, hkin, hktk⟩ := key_new hkey
      have hi3 : i < 3 := (List.getElem?_eq_some_iff.mp hkey).1
      obtain ⟨ld, eld⟩ : ∃ ld, ld = (I3, oI) :: (Fd, listOf fv.toArray n') :: rest := ⟨_, rfl⟩
      have lN : News g L' h ld := fun p hp => N p (by
        rw [eld] at hp
        rcases List.mem_cons.mp hp with rfl | hp
        · exact .head _
        · exact .tail _ (e2 p hp))
      have sbl : ∀ p ∈ bn, p ∈ ld := fun p hp => by rw [eld]; exact .tail _ (.tail _ (e3 p (.tail _ hp)))
      have mxl := sbl _ mx
      have hFm : (Fd, listOf fv.toArray n') ∈ ld := by rw [eld]; exact .tail _ (.head _)
      have hIm : (I3, oI) ∈ ld := by rw [eld]; exact .head _
      have hrl : ∀ p ∈ rest, p ∈ ld := fun p hp => by rw [eld]; exact .tail _ (.tail _ hp)
      have hFI : Fd < I3 := hI3 _ (.tail _ (.head _))
      have lF : Fr g L' h _ := F
      clear F N
      unfold tM at lF
      have hxlen : xvs.length = rows.length := by simpa using hxv.length
      have hxl : xvs.length ≤ 64 := by have := I.rlen; omega
      refine name_post ?_
      intro qP eqP
      dsimp only
      k_steps
      refine Wait.mk ?_
      rename Fr g L' _ _ => lF
      rename News g L' _ _ => lN
      k_dflt (refine bl_gen (ltAt (rows.map code) (code (key, (lo : Int)))) (bl_two (X := X') lF) B' lF X' lN T' rfl (.tail _ mxl) (rows_cmp (hxv.mono (fun p hp => .tail _ (sbl _ (sb _ hp)))) (.head _) I.rowOk ⟨hkin, by dsimp only; omega, by dsimp only; omega⟩) hxl (ltAt_mono I.srt _) (by ktr_room) (by ktr_units) ?_)
      intro f1 v1 h9 tk9 hf1 q1 q2 lF9 lN9
      have A3 : LeftAt (rows.map code) (code (key, (lo : Int))) f1 := .of (by simp; omega) q1 (fun i a b => q2 i a (by simpa [hxlen] using b))
      clear q1 q2
      k_steps
      refine Wait.mk ?_
      rename Fr g L' _ _ => lF
      rename News g L' _ _ => lN
      k_dflt (refine br_gen (leAt (rows.map code) (code (key, (hi : Int) - 1))) (br_two (X := X') lF) B' lF X' lN T' rfl (.tail _ (.tail _ mxl)) (rows_cmpR (hxv.mono (fun p hp => .tail _ (.tail _ (sbl _ (sb _ hp))))) (.head _) I.rowOk ⟨hkin, by dsimp only; omega, by dsimp only; omega⟩) hxl (leAt_mono I.srt _) (by ktr_room) (by ktr_units) ?_)
      intro f2 v2 h10 tk10 hf2 q1 q2 lF10 lN10
      have A4 : RightAt (rows.map code) (code (key, (hi : Int) - 1)) f2 := .of (by simp; omega) q1 (fun i a b => q2 i a (by simpa [hxlen] using b))
      clear q1 q2
      by_cases hq : f1 < f2
      · obtain ⟨x, g1, g2, hends⟩ := key_yes I h2 hkin A3 A4 hq
        have hq' : (f1 : Int) < (f2 : Int) := by omega
        k_steps
        refine Wait.mk ?_
        rename Fr g L' _ _ => lF
        rename News g L' _ _ => lN
        have row_at : ∀ {r : Nat} {z : Int}, rows[r]? = some (key, z) → ∃ a t u n, xvs[r]? = some (.ref a) ∧ (a, rowObj key z t u n) ∈ news := fun {r z} hg => by
          have hlt : r < rows.length := (List.getElem?_eq_some_iff.mp hg).1
          obtain ⟨v, z1, z2⟩ := hxv.get (k := r) (by simpa using hlt)
          have z3 : (rows.map rowDat)[r]'(by simpa using hlt) = rowDat (key, z) := by
            have := (List.getElem?_eq_some_iff.mp hg).2
            simp [this]
          rw [z3] at z2
          obtain ⟨a, t, u, n, rfl, hm⟩ := row_of z2
          exact ⟨a, t, u, n, z1, hm⟩
        obtain ⟨a1, ta1, ua1, na1, ha1, hm1⟩ := row_at g1
        obtain ⟨a2, ta2, ua2, na2, ha2, hm2⟩ := row_at g2
        k_dflt (refine item_at lN (.tail _ (.tail _ (.tail _ mxl))) (by omega) (by omega) ha1 ?_ (by with_unfolding_all rfl))
        k_steps
        refine Wait.mk ?_
        k_dflt (refine item_at (vs := [.str key ta1, .int x.1 ua1]) lN (.tail _ (.tail _ (.tail _ (sbl _ (sb _ hm1))))) (by decide) (by decide) rfl ?_ (by with_unfolding_all rfl))
        k_steps
        refine Wait.mk ?_
        have hf2' : ((f2 : Int) - 1).toNat = f2 - 1 := by omega
        k_dflt (refine item_at lN (.tail _ (.tail _ (.tail _ mxl))) (by omega) (by omega) (hf2' ▸ ha2) ?_ (by with_unfolding_all rfl))
        k_steps
        refine Wait.mk ?_
        k_dflt (refine item_at (vs := [.str key ta2, .int x.2 ua2]) lN (.tail _ (.tail _ (.tail _ (sbl _ (sb _ hm2))))) (by decide) (by decide) rfl ?_ (by with_unfolding_all rfl))
        k_steps
        refine Wait.mk ?_
        rename Fr g L' _ _ => lF5
        rename News g L' _ _ => lN5
        rename_i Tt _ hTt
        have hTl : ∀ p ∈ ld, p.1 < Tt := allLt_mem hTt.2.2.2
        k_dflt (refine app_at (l := Fd) (vs := fv) (n := n') (rest := (Tt, ({ cls := .type "tuple", data := .seq #[.int x.1 ua1, .int x.2 ua2] } : Obj)) :: (I3, oI) :: rest) lF5 (fun p hp => lN5 p ?_) (fun p hp => ?_) (by omega) ?_)
        · rcases List.mem_cons.mp hp with rfl | hp
          · exact .tail _ (.tail _ (.tail _ (.tail _ hFm)))
          · rcases List.mem_cons.mp hp with rfl | hp
            · exact .head _
            · rcases List.mem_cons.mp hp with rfl | hp
              · exact .tail _ (.tail _ (.tail _ (.tail _ hIm)))
              · exact .tail _ (.tail _ (.tail _ (.tail _ (hrl _ hp))))
        · rcases List.mem_cons.mp hp with rfl | hp
          · exact Nat.ne_of_gt (hTl _ hFm)
          · rcases List.mem_cons.mp hp with rfl | hp
            · exact Nat.ne_of_gt hFI
            · exact e4 p hp
        intro h11 F11 N11
        k_steps
        subst eqP
        k_steps
        refine ⟨_, _, _, (Fd, listOf (fv ++ [Value.ref Tt]).toArray (n' + 1)) :: (Tt, ({ cls := .type "tuple", data := .seq #[.int x.1 ua1, .int x.2 ua2] } : Obj)) :: rest, rfl, tM_of F11 rfl rfl rfl rfl, fun p hp => N11 p ?_, fun p hp q hq => ?_, ⟨.tail _ (.tail _ (e3 _ (.head _))), trivial⟩, fv ++ [Value.ref Tt], n' + 1, fl ++ [(key, x)], (Tt, ({ cls := .type "tuple", data := .seq #[.int x.1 ua1, .int x.2 ua2] } : Obj)) :: rest, _, fun p hp => hp, fun p hp => hp, fun p hp => .tail _ (e3 p hp), fun p hp => ?_, fun p hp => ?_, ?_, ?_, by simp; omega, rfl⟩
        · rcases List.mem_cons.mp hp with rfl | hp
          · exact .tail _ (.tail _ (.head _))
          · rcases List.mem_cons.mp hp with rfl | hp
            · exact .head _
            · rcases List.mem_cons.mp hp with rfl | hp
              · exact .tail _ (.head _)
              · exact .tail _ (.tail _ (.tail _ hp))
        · rw [List.mem_singleton.mp hq]
          rcases List.mem_cons.mp hp with rfl | hp
          · exact Nat.ne_of_lt hFI
          · rcases List.mem_cons.mp hp with rfl | hp
            · exact Nat.ne_of_gt (hTl _ hIm)
            · exact e5 p hp
        · rcases List.mem_cons.mp hp with rfl | hp
          · exact Nat.ne_of_gt (hTl _ hFm)
          · exact e4 p hp
        · rcases List.mem_cons.mp hp with rfl | hp
          · exact Nat.ne_of_gt (hTl _ hIm)
          · exact e5 p hp
        · rw [List.map_append]
          refine DatAll.append (hfv'.mono fun p hp => .tail _ hp) (.one ?_)
          exact .tuple (vs := [.int x.1 ua1, .int x.2 ua2]) (.head _) (.cons (.int _ _) (.cons (.int _ _) .nil))
        · rw [hktk]
          exact hfound.yes hknew hends
      · have hq' : ¬ (f1 : Int) < (f2 : Int) := by omega
        k_steps
        subst eqP
        k_steps
        rename Fr g L' _ _ => lF
        rename News g L' _ _ => lN
        refine ⟨_, _, _, (Fd, listOf fv.toArray n') :: rest, rfl, tM_of lF rfl rfl rfl rfl, fun p hp => lN p (.tail _ (.tail _ (.tail _ ?_))), fun p hp q hq => ?_, ⟨.tail _ (e3 _ (.head _)), trivial⟩, fv, n', fl, rest, _, fun p hp => hp, fun p hp => hp, e3, e4, e5, hfv', ?_, by omega, rfl⟩
        · rw [eld]; exact hp
        · rw [List.mem_singleton.mp hq]
          rcases List.mem_cons.mp hp with rfl | hp
          · exact Nat.ne_of_lt hFI
          · exact e5 p hp
        · rw [hktk]
          exact hfound.no (key_no I A3 A4 (by assumption))
    · rintro m₁ nw h tk ⟨fv, n', fl, rest, u, e1, e2, e3, e4, e5, hfv', hfound, hfvl, rfl⟩ F N
      have ekl : keysL.take (kvs.map Itm.val).length = keysL := by rw [List.length_map, hk3]; rfl
      rw [ekl] at hfound
      rw [List.length_map, hk3] at hfvl
      have hfll : fv.length = fl.length := by simpa using hfv'.length
      obtain ⟨b5, eb5⟩ : ∃ b5, b5 = (Fd, listOf fv.toArray n') :: rest := ⟨_, rfl⟩
      have lN : News g L' h b5 := fun p hp => N p (e2 p (eb5 ▸ hp))
      have hFm : (Fd, listOf fv.toArray n') ∈ b5 := by rw [eb5]; exact .head _
      have sb5 : ∀ p ∈ bn, p ∈ b5 := fun p hp => by rw [eb5]; exact .tail _ (e3 p (.tail _ hp))
      have hfv5 : DatAll b5 fv ((fl.map (·.2)).map pairI) := by
        rw [List.map_map]
        exact hfv'.mono fun p hp => by rw [eb5]; exact .tail _ hp
      have lF : Fr g L' h _ := F
      clear F N
      unfold tM at lF
      dsimp only
      k_steps
      refine Wait.mk ?_
      k_dflt (refine lc_eval (tst := none) (ce := fun C => _) (cs := fun C => []) lF (by with_unfolding_all rfl) rfl (by decide) (fun C => rfl) (fun _ _ _ _ h => nomatch h) ?_)
      k_steps
      refine Wait.mk ?_
      k_dflt (refine sorted_pairs lF lN hFm hfv5 hfound.firsts (by rw [List.length_map]; omega) (by ktr_units) ?_)
      intro Ds c h' vs' xs' F6 N6 hlt6 hd' hs' hm'
      have hfin := told_final I.keys hfound hs' hm'
      have hxl : vs'.length = xs'.length := by simpa using hd'.length
      have hx5 : xs'.length ≤ 5 := by
        have hn : (xs'.map (·.1)).Nodup := sorted_nodup hs'
        have : xs'.length = ((keysOf (cutR rs lo hi)).map (fun k => Rd.ok k (lastOf (cutR rs lo hi) k))).length := by rw [← hfin]; simp
        rw [List.length_map] at this
        have h9 := keysOf_length (cutR rs lo hi)
        have h8 : (cutR rs lo hi).length ≤ rs.length := by unfold cutR; simp; omega
        have := I.len
        omega
      have hzs : ∀ z ∈ xs', ∃ (j : Nat) (k v : Str), z.2 = (j : Int) ∧ rs[j]? = some (.ok k v) ∧ rdAt rs z.2 = .ok k v := by
        intro z hz
        obtain ⟨y, hy, rfl⟩ := List.mem_map.mp ((hm' z).mp hz)
        obtain ⟨i, j, e, _, ⟨_, _, v, hv⟩, _⟩ := (hfound.has y hy).2
        refine ⟨j, y.1, v, by rw [e], hv, ?_⟩
        rw [e]
        unfold rdAt
        rw [Int.toNat_natCast, hv]; rfl
      clear lF lN
      have m6 : ∀ p ∈ bn, p ∈ (Ds, listOf vs'.toArray c) :: b5 := fun p hp => .tail _ (sb5 p hp)
      refine Wait.mk ?_
      k_dflt (refine lc_list rfl F6 N6 (.head _) (by rw [sizeLine_eq]; omega) (fun C j m₂ h => ∃ x y, m₂ (Str.ofString "first") = some x ∧ m₂ (Str.ofString "last") = some y ∧ ∃ z t u, xs'[j]? = some z ∧ x = .int z.1 t ∧ y = .int z.2 u) (fun j zs nw => (∀ p ∈ (Ds, listOf vs'.toArray c) :: b5, p ∈ nw) ∧ DatAll nw zs ((xs'.take j).map fun z => rdDat (rdAt rs z.2))) ⟨fun p hp => hp, .nil⟩ (fun C => binds_pair (R := fun j x y => ∃ z t u, xs'[j]? = some z ∧ x = .int z.1 t ∧ y = .int z.2 u) rfl rfl rfl (by decide) rfl (fun j v h ⟨hv1, zs, nw, ⟨hnw1, _⟩, Nw⟩ => ?_)) ?_ ?_)
      · have hj : j < xs'.length := by rw [← hxl]; exact (List.getElem?_eq_some_iff.mp hv1).1
        obtain ⟨v', z1, z2⟩ := hd'.get (k := j) (by simpa using hj)
        rw [hv1] at z1
        cases z1
        rw [List.getElem_map] at z2
        obtain ⟨T, t, u, n, rfl, hT⟩ := pair_of z2
        exact ⟨T, _, _, rfl, ⟨_, (Nw _ (hnw1 _ (.tail _ hT))).1, rfl, _, rfl⟩, _, t, u, List.getElem?_eq_getElem hj, rfl, rfl⟩
      · rintro hB C D3 j zs nw3 hY tkY m₃ oC3 led E3 hjn ⟨hnw3, hJ3⟩ ⟨_, _, hm1, hm2, z, tz1, tz2, hz, rfl, rfl⟩ GR
        clear F6 N6
        have lF := GR.fr
        have lN := GR.nws
        have lC := GR.frame
        have lO := GR.ns
        obtain ⟨jj, k, v, hzj, hrj, hrd⟩ := hzs z (List.mem_of_getElem? hz)
        have led5 : ∀ p ∈ bn, p ∈ led := fun p hp => GR.sub p (hnw3 p (m6 p hp))
        have c2 := led5 _ c1
        have mil := led5 _ mi
        have hjj : jj < rs.length := (List.getElem?_eq_some_iff.mp hrj).1
        have hl5 := I.len
        have hts : ts.length = rs.length := by simpa using congrArg List.length hs
        obtain ⟨tt, htt⟩ : ∃ t, ts[jj]? = some t := ⟨_, List.getElem?_eq_getElem (by omega)⟩
        obtain ⟨ut, hut⟩ := strs_get hiv htt
        have hpt : parse1 tt = some (.ok k v) := by
          have e := congrArg (fun l => l[jj]?) hs
          simp only [List.getElem?_map, htt, hrj, Option.map_some] at e
          exact Option.some.inj e
        unfold CTurn tstRun
        dsimp only
        rw [if_pos rfl]
        k_steps
        refine Wait.mk ?_
        k_dflt (refine item_at lN mil (by omega) (by omega) (by rw [hzj]; exact hut) ?_ (by with_unfolding_all rfl))
        k_steps
        refine Wait.mk ?_
        rename Fr g L' _ _ => lF7
        rename News g L' _ _ => lN7
        rename (∀ p, p ∈ led → _ < _) => lt7
        k_dflt (refine read_spec (ts := [tt]) (rs := [.ok k v]) B' lF7 X' lN7 T' XB TB D' rfl (.head _) (.cons tt ut .nil) (by simp [hpt]) (fun t ht => by rw [List.mem_singleton.mp ht]; exact hln _ (List.mem_of_getElem? htt)) (by show 1 ≤ 8; omega) (by ktr_room) (by ktr_units) ?_ ?_)
        · intro b' kg h' tk' t hb'
          cases hb'
        · intro b9 c9 vs9 tups h9 tk9 _ F9 N9 hb1 hb2 hd9
          have ep : (pairs [Rd.ok k v]).map pairDat = [Dat.tuple [.str k, .str v]] := by rw [pairs_dat]; simp [keysOf, keyStep, lastOf, valsOf, valStep]
          rw [ep] at hd9
          cases hd9 with
          | cons h1' h2' =>
            cases h2'
            rename_i v9
            k_steps
            refine Wait.mk ?_
            k_dflt (refine item_at N9 (List.mem_append_right _ (.head _)) (by decide) (by decide) rfl ?_ (by with_unfolding_all rfl))
            refine ⟨_, _, tups ++ nw3, rfl, F9, fun p hp => N9 p (List.mem_append_right _ (.tail _ (.tail _ hp))), fun p hp => N9 p ?_, fun p hp => ?_, fun p hp => List.mem_append_right _ (hnw3 p hp), ?_⟩
            · rcases List.mem_append.mp hp with hp | hp
              · exact List.mem_append_left _ hp
              · exact List.mem_append_right _ (.tail _ (.tail _ (GR.sub p hp)))
            · rcases List.mem_append.mp hp with hp | hp
              · exact .inr fun q hq => Nat.lt_trans (hb1 q (.tail _ hq)) (hb2 p hp)
              · exact .inl hp
            · rw [List.take_add_one, hz, Option.toList_some, List.map_append]
              refine DatAll.append (hJ3.mono fun p hp => List.mem_append_right _ hp) (.one ?_)
              show DatIn _ v9 (rdDat (rdAt rs z.2))
              rw [hrd]
              exact h1'.mono fun p hp => List.mem_append_left _ hp
      · rintro hB D3 zs nw3 ⟨hnw3, hJ3⟩ off3 off4 hY tkY lF3 lN3'
        have lF : Fr g L' hY _ := lF3
        have lN : News g L' hY _ := lN3'
        rw [hxl, List.take_length] at hJ3
        have e9 : (xs'.map fun z => rdDat (rdAt rs z.2)) = (pairs (cutR rs lo hi)).map pairDat := by
          have : (xs'.map fun z => rdDat (rdAt rs z.2)) = (xs'.map fun z => rdAt rs z.2).map rdDat := by rw [List.map_map]; rfl
          rw [this, hfin, pairs_dat, List.map_map]
          rfl
        rw [e9] at hJ3
        dsimp only
        refine leaveS_l lF lN ?_
        intro kF kN
        exact good D3 zs _ _ _ hnb kF kN (fun p hp => .tail _ (hnw3 _ (m6 p (sb p hp)))) (.head _) (hJ3.mono fun p hp => .tail _ hp)
    · refine ⟨[], 0, [], (K3, listOf kvs.toArray 0) :: bn, _, fun p hp => ?_, fun p hp => ?_, fun p hp => hp, fun p hp => ?_, fun p hp => ?_, .nil, Found.nil, Nat.le_refl _, tM_eq rfl rfl rfl rfl⟩
      · rcases List.mem_cons.mp hp with rfl | hp
        · exact .tail _ (.head _)
        · rcases List.mem_cons.mp hp with rfl | hp
          · exact .head _
          · exact .tail _ (.tail _ hp)
      · rcases List.mem_cons.mp hp with rfl | hp
        · exact .tail _ (.head _)
        · rcases List.mem_cons.mp hp with rfl | hp
          · exact .head _
          · exact .tail _ (.tail _ hp)
      · rcases List.mem_cons.mp hp with rfl | hp
        · exact Nat.ne_of_gt hK3.1
        · exact Nat.ne_of_lt (hFd p hp)
      · rcases List.mem_cons.mp hp with rfl | hp
        · exact Nat.ne_of_lt (hI3 _ (.head _))
        · exact Nat.ne_of_lt (hI3 _ (.tail _ (.tail _ hp)))
end
end Mine
end
section
open PySem PySem.W PyProof.Rows PySem.Calls PySem.Spec PyProof.V
set_option Elab.async false
set_option maxRecDepth 100000
set_option maxHeartbeats 2000000
set_option linter.unusedVariables false
namespace Mine
section
variable {prog : Program} {w : World} {A : Around} {E : Value → Shared → Prop} {s : Shared}
/-- a zip over two drawn iterators, its parts apart -/
structure ZipD (prog : Program) (w : World) (A : Around) (z TI TO i1 i2 : Addr) (fp1 fp2 : List Addr) (n1 n2 : Nat) (P1 P2 : Nat → Value → Prop) (S1 S2 : Nat → Heap → Prop) : Prop where
  d1 : Draws prog w A i1 fp1 n1 P1 S1
  d2 : Draws prog w A i2 fp2 n2 P2 S2
  f1 : z ∉ fp1 ∧ TO ∉ fp1 ∧ i2 ∉ fp1
  f2 : z ∉ fp2 ∧ TO ∉ fp2 ∧ i1 ∉ fp2
  TIz : TI ≠ z
  TOz : TO ≠ z
  i1z : i1 ≠ z
  i2z : i2 ≠ z
  TITO : TI ≠ TO
  TIi1 : TI ≠ i1
  TIi2 : TI ≠ i2
  TOi1 : TO ≠ i1
  TOi2 : TO ≠ i2
variable {z TI TO i1 i2 : Addr} {fp1 fp2 : List Addr} {n1 n2 : Nat} {P1 P2 : Nat → Value → Prop} {S1 S2 : Nat → Heap → Prop}
theorem zd_keep {S : Nat → Heap → Prop} {i : Nat} {h h' : Heap} {a : Addr} {it : Addr} {fp : List Addr} {n : Nat} {P : Nat → Value → Prop} (D : Draws prog w A it fp n P S) (x : S i h) (hs : Heap.SameBut a h h') (ha : a ∉ fp) : S i h' :=
  D.frame _ _ _ x fun b hb o e => hs.extBut b o (fun q => ha (q ▸ hb)) e
theorem zd_item {k : Nat} {a b : Value} {Q : Value → Shared → Prop} (D : ZipD prog w A z TI TO i1 i2 fp1 fp2 n1 n2 P1 P2 S1 S2) (h1 : k < n1) (h2 : k < n2)
    (hz : IsZip s.heap z TI TO .none) (hTI : IsPair s.heap TI (.ref i1) (.ref i2)) (hTO : IsPair s.heap TO a b) (x1 : S1 k s.heap) (x2 : S2 k s.heap)
    (hQ : ∀ h' tk x y, P1 k x → P2 k y → IsZip h' z TI TO (rawInt s.heap.objs.size) → IsPair h' TO x y → S1 (k + 1) h' → S2 (k + 1) h' → IsPair h' s.heap.objs.size x y →
      (∀ c o, c ≠ z → c ≠ TO → c ≠ i1 → c ≠ i2 → s.heap.get? c = some o → h'.get? c = some o) → Q (.ref s.heap.objs.size) { s with heap := h', toks := tk }) :
    wpAny (model prog w) A (Builtin.«zip.__next__» ⟨[.ref z], []⟩) (fun fin s' => ∃ v, fin = .done (.ret v) ∧ Q v s') E s := by
  show wpAny _ _ (field (.ref z) 2 >>= _) _ _ _
  refine wpAny_bind (wpAny_field hz rfl (x := .bool false) rfl ?_)
  show wpAny _ _ (field (.ref z) 3 >>= _) _ _ _
  refine wpAny_bind (wpAny_field hz rfl (x := .ref TI) rfl ?_)
  refine wpAny_bind (wpAny_seqItems hTI rfl ?_)
  show wpAny _ _ (Builtin.SmallTypes.ownedTupleIsFree (.ref z) >>= _) _ _ _
  refine wpAny_bind ?_
  unfold Builtin.SmallTypes.ownedTupleIsFree
  refine wpAny_bind (wpAny_field hz rfl (x := .none) rfl (wpAny_pure ?_))
  simp only [if_true]
  refine wpAny_bind (wpAny_rule ?_)
  refine wpAny_bind (wpAny_field hz rfl (x := .ref TO) rfl ?_)
  refine wpAny_bind (wpAny_setField_rec hz (by simp) fun h₁ hz₁ hs₁ => ?_)
  replace hz₁ : IsZip h₁ z TI TO .ellipsis := hz₁
  refine wpAny_bind ?_
  simp only [List.zipIdx_cons, List.zipIdx_nil, List.forIn_cons, List.forIn_nil]
  refine wpAny_bind (wpAny_bind (wpAny_onRaise ?_))
  show wpAny _ _ (Builtin.SmallTypes.nextOf (.ref i1) >>= _) _ _ _
  refine wpAny_bind (D.d1.item k _ _ _ h1 (zd_keep D.d1 x1 hs₁ D.f1.1) fun x h₂ tk₂ px y1₂ hs₂ => wpAny_pure ?_)
  have hTO₂ : IsPair h₂ TO a b := hs₂.extBut _ _ D.TOi1 (hs₁.extBut _ _ D.TOz hTO)
  refine wpAny_bind (wpAny_seqItems hTO₂ rfl ?_)
  refine wpAny_bind (wpAny_updateSeq_pair hTO₂ fun h₃ hTO₃ hs₃ => ?_)
  replace hTO₃ : IsPair h₃ TO x b := hTO₃
  refine wpAny_bind (wpAny_letGo (wpAny_pure ?_))
  refine wpAny_bind (wpAny_bind (wpAny_onRaise ?_))
  show wpAny _ _ (Builtin.SmallTypes.nextOf (.ref i2) >>= _) _ _ _
  refine wpAny_bind (D.d2.item k _ _ _ h2 (zd_keep D.d2 (zd_keep D.d2 (zd_keep D.d2 x2 hs₁ D.f2.1) hs₂ D.f2.2.2) hs₃ D.f2.2.1) fun y h₄ tk₄ py y2₄ hs₄ => wpAny_pure ?_)
  have hTO₄ : IsPair h₄ TO x b := hs₄.extBut _ _ D.TOi2 hTO₃
  refine wpAny_bind (wpAny_seqItems hTO₄ rfl ?_)
  refine wpAny_bind (wpAny_updateSeq_pair hTO₄ fun h₅ hTO₅ hs₅ => ?_)
  replace hTO₅ : IsPair h₅ TO x y := hTO₅
  refine wpAny_bind (wpAny_letGo (wpAny_pure (wpAny_pure ?_)))
  refine wpAny_bind (wpAny_seqItems hTO₅ rfl ?_)
  refine wpAny_bind (wpAny_newTuple ?_)
  have hsz : h₅.objs.size = s.heap.objs.size := by rw [hs₅.1, hs₄.1, hs₃.1, hs₂.1, hs₁.1]
  have hz₅ : IsZip h₅ z TI TO .ellipsis := hs₅.extBut _ _ D.TOz.symm (hs₄.extBut _ _ D.i2z.symm (hs₃.extBut _ _ D.TOz.symm (hs₂.extBut _ _ D.i1z.symm hz₁)))
  have hk₅ : ∀ c o, c ≠ z → c ≠ TO → c ≠ i1 → c ≠ i2 → s.heap.get? c = some o → h₅.get? c = some o := fun c o c1 c2 c3 c4 e =>
    hs₅.extBut _ _ c2 (hs₄.extBut _ _ c4 (hs₃.extBut _ _ c2 (hs₂.extBut _ _ c3 (hs₁.extBut _ _ c1 e))))
  have y1₅ : S1 (k + 1) h₅ := zd_keep D.d1 (zd_keep D.d1 (zd_keep D.d1 y1₂ hs₃ D.f1.2.1) hs₄ D.f1.2.2) hs₅ D.f1.2.1
  have y2₅ : S2 (k + 1) h₅ := zd_keep D.d2 y2₄ hs₅ D.f2.2.1
  have hzlt : z < h₅.objs.size := Heap.lt_size hz₅
  show wpAny _ _ (Builtin.SmallTypes.ownedTupleHandOut (.ref z) (.ref h₅.objs.size) >>= _) _ _ _
  refine wpAny_bind ?_
  unfold Builtin.SmallTypes.ownedTupleHandOut
  have hz₆ : IsZip (h₅.push { cls := .type "tuple", data := .seq #[x, y] }) z TI TO .ellipsis := Heap.get?_push_of_some _ hz₅
  refine wpAny_bind (wpAny_setField_rec hz₆ (by simp) fun h₇ hz₇ hs₇ => ?_)
  replace hz₇ : IsZip h₇ z TI TO (rawInt h₅.objs.size) := hz₇
  refine wpAny_setField_rec hz₇ (by simp) fun h₈ hz₈ hs₈ => ?_
  replace hz₈ : IsZip h₈ z TI TO (rawInt h₅.objs.size) := hz₈
  have up : ∀ c o, c ≠ z → h₅.get? c = some o → h₈.get? c = some o := fun c o c1 e => hs₈.extBut _ _ c1 (hs₇.extBut _ _ c1 (Heap.get?_push_of_some _ e))
  have hT₈ : IsPair h₈ h₅.objs.size x y := hs₈.extBut _ _ (Nat.ne_of_gt hzlt) (hs₇.extBut _ _ (Nat.ne_of_gt hzlt) (Heap.get?_push_size _ rfl))
  rw [hsz] at hz₈ hT₈
  refine wpAny_pure ⟨_, rfl, ?_⟩
  show Q (.ref h₅.objs.size) _
  rw [hsz]
  exact hQ h₈ _ x y px py hz₈ (up _ _ D.TOz hTO₅) (D.d1.frame _ _ _ y1₅ fun c hc o e => up c o (fun q => D.f1.1 (q ▸ hc)) e) (D.d2.frame _ _ _ y2₅ fun c hc o e => up c o (fun q => D.f2.1 (q ▸ hc)) e) hT₈ fun c o c1 c2 c3 c4 e => up c o c1 (hk₅ c o c1 c2 c3 c4 e)
theorem zd_end {a b : Value} {Q : Fin → Shared → Prop} (D : ZipD prog w A z TI TO i1 i2 fp1 fp2 n1 n2 P1 P2 S1 S2)
    (hz : IsZip s.heap z TI TO .none) (hTI : IsPair s.heap TI (.ref i1) (.ref i2)) (hTO : IsPair s.heap TO a b) (x1 : S1 (min n1 n2) s.heap) (x2 : S2 (min n1 n2) s.heap)
    (hE : ∀ h' tk e, (∀ c o, c ≠ z → c ≠ TO → c ≠ i1 → c ≠ i2 → s.heap.get? c = some o → h'.get? c = some o) → (∃ o, h'.get? e = some o ∧ o.cls = .type "StopIteration") → E (.ref e) { s with heap := h', toks := tk }) :
    wpAny (model prog w) A (Builtin.«zip.__next__» ⟨[.ref z], []⟩) Q E s := by
  show wpAny _ _ (field (.ref z) 2 >>= _) _ _ _
  refine wpAny_bind (wpAny_field hz rfl (x := .bool false) rfl ?_)
  show wpAny _ _ (field (.ref z) 3 >>= _) _ _ _
  refine wpAny_bind (wpAny_field hz rfl (x := .ref TI) rfl ?_)
  refine wpAny_bind (wpAny_seqItems hTI rfl ?_)
  show wpAny _ _ (Builtin.SmallTypes.ownedTupleIsFree (.ref z) >>= _) _ _ _
  refine wpAny_bind ?_
  unfold Builtin.SmallTypes.ownedTupleIsFree
  refine wpAny_bind (wpAny_field hz rfl (x := .none) rfl (wpAny_pure ?_))
  simp only [if_true]
  refine wpAny_bind (wpAny_rule ?_)
  refine wpAny_bind (wpAny_field hz rfl (x := .ref TO) rfl ?_)
  refine wpAny_bind (wpAny_setField_rec hz (by simp) fun h₁ hz₁ hs₁ => ?_)
  replace hz₁ : IsZip h₁ z TI TO .ellipsis := hz₁
  refine wpAny_bind ?_
  simp only [List.zipIdx_cons, List.zipIdx_nil, List.forIn_cons, List.forIn_nil]
  refine wpAny_bind (wpAny_bind (wpAny_onRaise ?_))
  show wpAny _ _ (Builtin.SmallTypes.nextOf (.ref i1) >>= _) _ _ _
  have x1₁ := zd_keep D.d1 x1 hs₁ D.f1.1
  by_cases hle : n1 ≤ n2
  · rw [Nat.min_eq_left hle] at x1₁
    refine wpAny_bind (D.d1.done _ _ _ x1₁ fun h₂ e hs₂ he => ?_)
    obtain ⟨oe, hoe, hce⟩ := he
    have hz₂ : IsZip h₂ z TI TO .ellipsis := hs₂ _ _ D.i1z.symm hz₁
    have hez : e ≠ z := fun x => by subst x; rw [hz₂] at hoe; cases hoe; simp at hce
    refine wpAny_setField_rec hz₂ (by simp) fun h₃ _ hs₃ => hE h₃ _ e (fun c o c1 _ c3 _ x => hs₃.extBut _ _ c1 (hs₂ _ _ c3 (hs₁.extBut _ _ c1 x))) ⟨oe, hs₃.extBut _ _ hez hoe, hce⟩
  · have e2 : min n1 n2 = n2 := Nat.min_eq_right (by omega)
    rw [e2] at x1₁ x2
    refine wpAny_bind (D.d1.item n2 _ _ _ (by omega) x1₁ fun x h₂ tk₂ px y1₂ hs₂ => wpAny_pure ?_)
    have hTO₂ : IsPair h₂ TO a b := hs₂.extBut _ _ D.TOi1 (hs₁.extBut _ _ D.TOz hTO)
    refine wpAny_bind (wpAny_seqItems hTO₂ rfl ?_)
    refine wpAny_bind (wpAny_updateSeq_pair hTO₂ fun h₃ hTO₃ hs₃ => ?_)
    refine wpAny_bind (wpAny_letGo (wpAny_pure ?_))
    refine wpAny_bind (wpAny_bind (wpAny_onRaise ?_))
    show wpAny _ _ (Builtin.SmallTypes.nextOf (.ref i2) >>= _) _ _ _
    refine wpAny_bind (D.d2.done _ _ _ (zd_keep D.d2 (zd_keep D.d2 (zd_keep D.d2 x2 hs₁ D.f2.1) hs₂ D.f2.2.2) hs₃ D.f2.2.1) fun h₄ e hs₄ he => ?_)
    obtain ⟨oe, hoe, hce⟩ := he
    have hz₄ : IsZip h₄ z TI TO .ellipsis := hs₄ _ _ D.i2z.symm (hs₃.extBut _ _ D.TOz.symm (hs₂.extBut _ _ D.i1z.symm hz₁))
    have hez : e ≠ z := fun x => by subst x; rw [hz₄] at hoe; cases hoe; simp at hce
    refine wpAny_setField_rec hz₄ (by simp) fun h₅ _ hs₅ => hE h₅ _ e (fun c o c1 c2 c3 c4 x => hs₅.extBut _ _ c1 (hs₄ _ _ c4 (hs₃.extBut _ _ c2 (hs₂.extBut _ _ c3 (hs₁.extBut _ _ c1 x))))) ⟨oe, hs₅.extBut _ _ hez hoe, hce⟩

theorem zd_next {k : Nat} {a b : Value} {Q : Option Value → Shared → Prop} (D : ZipD prog w A.in1 z TI TO i1 i2 fp1 fp2 n1 n2 P1 P2 S1 S2) (h1 : k < n1) (h2 : k < n2)
    (hz : IsZip s.heap z TI TO .none) (hTI : IsPair s.heap TI (.ref i1) (.ref i2)) (hTO : IsPair s.heap TO a b) (x1 : S1 k s.heap) (x2 : S2 k s.heap)
    (hQ : ∀ h' tk x y, P1 k x → P2 k y → IsZip h' z TI TO (rawInt s.heap.objs.size) → IsPair h' TO x y → S1 (k + 1) h' → S2 (k + 1) h' → IsPair h' s.heap.objs.size x y →
      (∀ c o, c ≠ z → c ≠ TO → c ≠ i1 → c ≠ i2 → s.heap.get? c = some o → h'.get? c = some o) → Q (some (.ref s.heap.objs.size)) { s with heap := h', toks := tk }) :
    wpAny (model prog w) A (pyNext (.ref z)) Q E s := by
  have hT : s.TypeIs (.ref z) "zip" := ⟨_, hz, rfl⟩
  unfold pyNext
  exact wpAny_bind (wpAny_attempt (wpAny_callSpecial?_slot (name := Str.ofString "__next__") hT F.slot_zip_next
    (wpAny_call_entry F.slot_zip_next hT F.entry_zip_next
      (zd_item D h1 h2 hz hTI hTO x1 x2 fun h' tk x y a1 a2 a3 a4 a5 a6 a7 a8 => wpAny_pure (hQ h' tk x y a1 a2 a3 a4 a5 a6 a7 a8)) (F.args_zip_next_1 _))))
theorem zd_stop {a b : Value} {Q : Option Value → Shared → Prop} (D : ZipD prog w A.in1 z TI TO i1 i2 fp1 fp2 n1 n2 P1 P2 S1 S2)
    (hz : IsZip s.heap z TI TO .none) (hTI : IsPair s.heap TI (.ref i1) (.ref i2)) (hTO : IsPair s.heap TO a b) (x1 : S1 (min n1 n2) s.heap) (x2 : S2 (min n1 n2) s.heap)
    (hQ : ∀ h' tk, (∀ c o, c ≠ z → c ≠ TO → c ≠ i1 → c ≠ i2 → s.heap.get? c = some o → h'.get? c = some o) → Q none { s with heap := h', toks := tk }) : wpAny (model prog w) A (pyNext (.ref z)) Q E s := by
  have hT : s.TypeIs (.ref z) "zip" := ⟨_, hz, rfl⟩
  unfold pyNext
  refine wpAny_bind (wpAny_attempt (wpAny_callSpecial?_slot (name := Str.ofString "__next__") hT F.slot_zip_next
    (wpAny_call_entry F.slot_zip_next hT F.entry_zip_next (zd_end D hz hTI hTO x1 x2 fun h' tk e hk he => ?_) (F.args_zip_next_1 _))))
  obtain ⟨o, ho, hc⟩ := he
  refine wpAny_bind (wpAny_isInstance (T := "StopIteration") (b := true) ⟨o, ho, hc⟩ isSubtype_stop ?_)
  exact wpAny_pure (hQ _ _ hk)
def ZSt (z TI TO i1 i2 : Addr) (S1 S2 : Nat → Heap → Prop) (k : Nat) (h : Heap) : Prop := IsZip h z TI TO .none ∧ IsPair h TI (.ref i1) (.ref i2) ∧ (∃ a b, IsPair h TO a b) ∧ S1 k h ∧ S2 k h
theorem zd_turns {elts : List PySem.Expr} {kk : Nat} {pos : Pos} (D : ZipD prog w A.in1 z TI TO i1 i2 fp1 fp2 n1 n2 P1 P2 S1 S2) (hi1 : i1 ∈ fp1) (hi2 : i2 ∈ fp2) (hTI1 : TI ∉ [z, TO, i1, i2]) :
    KTurns prog w A (.Tuple elts kk pos) z (z :: TI :: TO :: (fp1 ++ fp2)) [z, TO, i1, i2] (min n1 n2) (fun k v h => ∃ T x y, v = .ref T ∧ P1 k x ∧ P2 k y ∧ h.IsTuple T #[x, y])
      (fun k v h => ∃ T x y, v = .ref T ∧ P1 k x ∧ P2 k y ∧ IsPair h T x y ∧ T ≠ z ∧ IsZip h z TI TO (rawInt T) ∧ IsPair h TI (.ref i1) (.ref i2) ∧ (∃ a b, IsPair h TO a b) ∧ S1 (k + 1) h ∧ S2 (k + 1) h) (ZSt z TI TO i1 i2 S1 S2) where
  sub := fun b hb => by
    simp only [List.mem_cons, List.not_mem_nil, or_false] at hb
    rcases hb with rfl | rfl | rfl | rfl
    · simp
    · simp
    · simp [hi1]
    · simp [hi2]
  frame := fun k h h' ⟨a, b, ⟨x, y, c⟩, d, e⟩ hk => ⟨hk z (by simp) _ a, hk TI (by simp) _ b, ⟨x, y, hk TO (by simp) _ c⟩, D.d1.frame _ _ _ d fun q hq o e => hk q (by simp [hq]) o e, D.d2.frame _ _ _ e fun q hq o e => hk q (by simp [hq]) o e⟩
  item := fun k s Q E hi ⟨hz, hTI, ⟨a, b, hTO⟩, x1, x2⟩ hQ => by
    refine zd_next D (Nat.lt_of_lt_of_le hi (Nat.min_le_left ..)) (Nat.lt_of_lt_of_le hi (Nat.min_le_right ..)) hz hTI hTO x1 x2 fun h' tk x y p1 p2 hz' hTO' y1 y2 hT hk => ?_
    simp only [List.mem_cons, List.not_mem_nil, or_false, not_or] at hTI1
    refine hQ (.ref s.heap.objs.size) h' tk ⟨s.heap.objs.size, x, y, rfl, p1, p2, hT, Nat.ne_of_gt (Heap.lt_size hz), hz', hk _ _ hTI1.1 hTI1.2.1 hTI1.2.2.1 hTI1.2.2.2 hTI, ⟨x, y, hTO'⟩, y1, y2⟩ fun c o hc e => ?_
    simp only [List.mem_cons, List.not_mem_nil, or_false, not_or] at hc
    exact hk c o hc.1 hc.2.1 hc.2.2.1 hc.2.2.2 e
  go := fun k v s Q E hm hQ => by
    obtain ⟨T, x, y, rfl, p1, p2, hT, hTz, hz, hTI, ⟨a, b, hTO⟩, y1, y2⟩ := hm
    refine wpAny_letOwnedTupleGo_zip hz fun h' hz' hs' => hQ h' ⟨T, x, y, rfl, p1, p2, ⟨_, hs'.extBut _ _ hTz hT, rfl, _, rfl⟩⟩ ⟨hz', hs'.extBut _ _ D.TIz hTI, ⟨a, b, hs'.extBut _ _ D.TOz hTO⟩, zd_keep D.d1 y1 hs' D.f1.1, zd_keep D.d2 y2 hs' D.f2.1⟩ fun c o hc e => hs'.extBut _ _ (fun q => hc (by simp [q])) e
  done := fun s Q E ⟨hz, hTI, ⟨a, b, hTO⟩, x1, x2⟩ hQ => by
    refine zd_stop D hz hTI hTO x1 x2 fun h' tk hk => hQ h' tk fun c o hc e => ?_
    simp only [List.mem_cons, List.not_mem_nil, or_false, not_or] at hc
    exact hk c o hc.1 hc.2.1 hc.2.2.1 hc.2.2.2 e
abbrev zsH1 (h : Heap) (x : Str) (t : Tok) : Heap := h.push { cls := .type (strIterType x), data := .fields #[.str x t, .int 0 0] }
abbrev zsH2 (h : Heap) (x : Str) (t : Tok) (l : Addr) : Heap := (zsH1 h x t).push { cls := .type "list_iterator", data := .fields #[.ref l, .int 0 0] }
abbrev zsH3 (h : Heap) (x : Str) (t : Tok) (l : Addr) : Heap := (zsH2 h x t l).push { cls := .type "tuple", data := .seq #[.ref h.objs.size, .ref (zsH1 h x t).objs.size] }
abbrev zsH4 (h : Heap) (x : Str) (t : Tok) (l : Addr) : Heap := (zsH3 h x t l).push { cls := .type "tuple", data := .seq #[.none, .none] }
abbrev zsH5 (h : Heap) (x : Str) (t : Tok) (l : Addr) : Heap := (zsH4 h x t l).push { cls := .type "zip", data := .fields #[.none, .bool false, .bool false, .ref (zsH2 h x t l).objs.size, .ref (zsH3 h x t l).objs.size] }
theorem meets_zip_sl (x : Str) (t : Tok) (l : Addr) (ys : Array Value) :
    Meets (Builtin.«zip.__new__» ⟨[.type "zip", .str x t, .ref l], []⟩) (fun _ R s => s.heap.IsList l ys ∧
      R (.ok (.ret (.ref (zsH4 s.heap x t l).objs.size))) { s with heap := zsH5 s.heap x t l }) :=
  .of_wp fun prog w A R s h => by
    obtain ⟨hp, g, d, tk, os⟩ := s; obtain ⟨hl, h⟩ := h
    have hsub := sub_zip
    have hL : Heap.IsList (Shared.heap ⟨zsH1 hp x t, g, d, tk, os⟩) l ys := Heap.IsList.push hl _
    wp_walk using wpAny_pyIter_strU, wpAny_pyIter_list hL
    exact ⟨_, rfl, h⟩
theorem call_zip_sl {x : Str} {t : Tok} {l : Addr} {ys : Array Value} {Q : Value → Shared → Prop} (hl : s.heap.IsList l ys)
    (h : ∀ h', IsZip h' (s.heap.objs.size + 4) (s.heap.objs.size + 2) (s.heap.objs.size + 3) .none → IsPair h' (s.heap.objs.size + 2) (.ref s.heap.objs.size) (.ref (s.heap.objs.size + 1)) →
      IsPair h' (s.heap.objs.size + 3) .none .none → h'.IsStrIter s.heap.objs.size (strIterType x) x t 0 → h'.IsListIter (s.heap.objs.size + 1) l 0 →
      (∀ c o, s.heap.get? c = some o → h'.get? c = some o) → Q (.ref (s.heap.objs.size + 4)) { s with heap := h' }) :
    wpAny (model prog w) A (call (.type "zip") [.str x t, .ref l]) Q E s := by
  refine callType_new F.called_zip (by decide) (F.typeCall_zip_2 _ _) (F.newCall_zip_2 _ _) (fun obj => F.args_object_init_3 obj _ _) F.entry_zip_new (meets_zip_sl x t l ys) ⟨hl, ?_⟩
  have z1 : (zsH1 s.heap x t).objs.size = s.heap.objs.size + 1 := Heap.size_push ..
  have z2 : (zsH2 s.heap x t l).objs.size = s.heap.objs.size + 2 := by rw [Heap.size_push, z1]
  have z3 : (zsH3 s.heap x t l).objs.size = s.heap.objs.size + 3 := by rw [Heap.size_push, z2]
  have z4 : (zsH4 s.heap x t l).objs.size = s.heap.objs.size + 4 := by rw [Heap.size_push, z3]
  have up : ∀ c o, (zsH1 s.heap x t).get? c = some o → (zsH5 s.heap x t l).get? c = some o := fun c o e => Heap.get?_push_of_some _ (Heap.get?_push_of_some _ (Heap.get?_push_of_some _ (Heap.get?_push_of_some _ e)))
  have g5 : (zsH5 s.heap x t l).get? (zsH4 s.heap x t l).objs.size = some _ := Heap.get?_push_size _ rfl
  have g4 : (zsH5 s.heap x t l).get? (zsH3 s.heap x t l).objs.size = some _ := Heap.get?_push_of_some _ (Heap.get?_push_size _ rfl)
  have g3 : (zsH5 s.heap x t l).get? (zsH2 s.heap x t l).objs.size = some _ := Heap.get?_push_of_some _ (Heap.get?_push_of_some _ (Heap.get?_push_size _ rfl))
  have g2 : (zsH5 s.heap x t l).get? (zsH1 s.heap x t).objs.size = some _ := Heap.get?_push_of_some _ (Heap.get?_push_of_some _ (Heap.get?_push_of_some _ (Heap.get?_push_size _ rfl)))
  have g1 : (zsH5 s.heap x t l).get? s.heap.objs.size = some _ := up _ _ (Heap.get?_push_size _ rfl)
  show _ ∧ _
  rw [z2, z3, z4] at g5
  rw [z1, z2] at g3
  rw [z3] at g4
  rw [z1] at g2
  rw [z4]
  exact ⟨⟨_, g5, rfl⟩, h _ g5 g3 g4 ⟨_, g1, rfl, rfl⟩ ⟨_, g2, rfl, rfl⟩ fun c o e => up c o (Heap.get?_push_of_some _ e)⟩
end
section
variable {prog : Program} {w : World} {A : Around} {E : Value → Shared → Prop} {s : Shared} {env : Env} {h₀ : Heap} {body : List Stmt} {Q : Flow → Shared → Prop}
def zipS (cs : List Nat) (ys : List Value) : List Itm := (cs.zip ys).map fun p => Itm.pair (fun t => .str ⟨#[p.1]⟩ t) p.2
theorem zip_sl {elts : List PySem.Expr} {k : Nat} {pos : Pos} {x : Str} {t : Tok} {l : Addr} {lo : Obj} {ys : List Value} {n : Nat} {m₀ : Str → Option Value} {news : List (Addr × Obj)} (hx : strIterType x = "str_ascii_iterator")
    (hh : A.handled = none) (F : Fr h₀ env.locals s.heap m₀) (N : News h₀ env.locals s.heap news) (hm : (l, lo) ∈ news) (hc : lo.cls = .type "list") (hd : lo.data = .seq ys.toArray n)
    (rest₀ : ∀ I : Addr, (∀ p ∈ news, p.1 < I) → ItemsRest prog w A E h₀ env (.Tuple elts k pos) body Q s [(I + 4, "zip"), (I + 2, "tuple"), (I + 3, "tuple"), (I, "str_ascii_iterator"), (I + 1, "list_iterator")] [(l, lo)] (zipS x.cps.toList ys) m₀ news) :
    wpAny (model prog w) A (call (.type "zip") [.str x t, .ref l]) (fun xv s₁ => wpAny (model prog w) A (pyIter xv) (fun it s₂ => TurnsAt prog w A h₀ env (.Tuple elts k pos) body Q E it s₂) E s₁) E s := by
  have hax := N _ hm
  have hl : s.heap.IsList l ys.toArray := ⟨lo, hax.1, hc, n, hd⟩
  have hlt : l < s.heap.objs.size := Heap.lt_size hax.1
  have hLs : env.locals < s.heap.objs.size := F.ns.lt
  refine call_zip_sl hl fun h' hz hTI hTO hi1 hi2 hk => ?_
  refine wpAny_pyIter_zip hz ?_
  rw [hx] at hi1
  have ne : ∀ a b : Nat, a ≠ b → s.heap.objs.size + a ≠ s.heap.objs.size + b := fun a b h q => h (Nat.add_left_cancel q)
  have D : ZipD prog w A.in1 (s.heap.objs.size + 4) (s.heap.objs.size + 2) (s.heap.objs.size + 3) s.heap.objs.size (s.heap.objs.size + 1) [s.heap.objs.size] [s.heap.objs.size + 1, l] x.cps.size ys.toArray.size (fun i v => ∃ c u, x.cps[i]? = some c ∧ v = .str ⟨#[c]⟩ u) (fun i v => ys.toArray[i]? = some v) (fun i h => h.IsStrIter s.heap.objs.size "str_ascii_iterator" x t i) (fun i h => h.IsListIter (s.heap.objs.size + 1) l i ∧ h.IsList l ys.toArray) := {
    d1 := Draws.strAscii (A := A.in1) hh _ x t
    d2 := Draws.list (A := A.in1) hh _ l (ktu_ne 1 hlt) ys.toArray
    f1 := by refine ⟨?_, ?_, ?_⟩ <;> simp only [List.mem_singleton] <;> (refine neN ?_; omega)
    f2 := by
      have q1 : ¬ s.heap.objs.size + 4 = l := Ne.symm (ktu_ne 4 hlt)
      have q2 : ¬ s.heap.objs.size + 3 = l := Ne.symm (ktu_ne 3 hlt)
      have q3 : ¬ s.heap.objs.size = l := Ne.symm (Nat.ne_of_lt hlt)
      refine ⟨?_, ?_, ?_⟩ <;> simp only [List.mem_cons, List.not_mem_nil, or_false, not_or]
      · exact ⟨ne 4 1 (by decide), q1⟩
      · exact ⟨ne 3 1 (by decide), q2⟩
      · exact ⟨ne 0 1 (by decide), q3⟩
    TIz := ne 2 4 (by decide)
    TOz := ne 3 4 (by decide)
    i1z := ne 0 4 (by decide)
    i2z := ne 1 4 (by decide)
    TITO := ne 2 3 (by decide)
    TIi1 := ne 2 0 (by decide)
    TIi2 := ne 2 1 (by decide)
    TOi1 := ne 3 0 (by decide)
    TOi2 := ne 3 1 (by decide) }
  have hTIn : s.heap.objs.size + 2 ∉ [s.heap.objs.size + 4, s.heap.objs.size + 3, s.heap.objs.size, s.heap.objs.size + 1] := by
    simp only [List.mem_cons, List.not_mem_nil, or_false, not_or]
    exact ⟨ne 2 4 (by decide), ne 2 3 (by decide), ne 2 0 (by decide), ne 2 1 (by decide)⟩
  refine ktu_core (tk0 := s.toks) (keep := [(l, lo)]) (zd_turns D (by simp) (by simp) hTIn) ?_ ?_ ?_ ?_ ?_ ?_ ?_ ?_ ?_ (F.keeps hk) (N.grown hk) (And.intro hm trivial) (rest₀ _ fun p hp => Heap.lt_size (N p hp).1)
  · unfold zipS; simp
  · rintro i v h ⟨T, a, b, rfl, ⟨c, u, hc1, rfl⟩, hb, hT⟩
    refine ⟨.pair (fun t => .str ⟨#[c]⟩ t) b, ?_, T, u, rfl, hT⟩
    unfold zipS
    have e1 : x.cps.toList[i]? = some c := by simpa using hc1
    have e2 : ys[i]? = some b := by simpa using hb
    rw [List.getElem?_map]
    have e3 : (x.cps.toList.zip ys)[i]? = some (c, b) := by simp [List.getElem?_zip_eq_some, e1, e2]
    rw [e3]; rfl
  · rintro i h ⟨hz, hTI, ⟨a, b, hTO⟩, ⟨o1, ho1, hc1, _⟩, ⟨o2, ho2, hc2, _⟩, _⟩
    have e1 : ∃ o : Obj, h.get? (s.heap.objs.size + 4) = some o ∧ o.cls = .type "zip" := ⟨_, hz, rfl⟩
    have e2 : ∃ o : Obj, h.get? (s.heap.objs.size + 2) = some o ∧ o.cls = .type "tuple" := ⟨_, hTI, rfl⟩
    have e3 : ∃ o : Obj, h.get? (s.heap.objs.size + 3) = some o ∧ o.cls = .type "tuple" := ⟨_, hTO, rfl⟩
    obtain ⟨q1, g1, k1⟩ := e1
    obtain ⟨q2, g2, k2⟩ := e2
    obtain ⟨q3, g3, k3⟩ := e3
    refine ⟨[(s.heap.objs.size + 4, q1), (s.heap.objs.size + 2, q2), (s.heap.objs.size + 3, q3), (s.heap.objs.size, o1), (s.heap.objs.size + 1, o2)], ⟨⟨rfl, k1⟩, ⟨rfl, k2⟩, ⟨rfl, k3⟩, ⟨rfl, hc1⟩, ⟨rfl, hc2⟩, trivial⟩, fun p hp => ?_⟩
    simp only [List.mem_cons, List.not_mem_nil, or_false] at hp
    rcases hp with rfl | rfl | rfl | rfl | rfl
    · exact g1
    · exact g2
    · exact g3
    · exact ho1
    · exact ho2
  · intro b hb
    simp only [List.map_cons, List.map_nil, List.mem_cons, List.not_mem_nil, or_false] at hb
    rcases hb with rfl | rfl | rfl | rfl | rfl
    · exact ⟨by simp, ktu_new F (Nat.le_add_right _ _)⟩
    · exact ⟨by simp, ktu_new F (Nat.le_add_right _ _)⟩
    · exact ⟨by simp, ktu_new F (Nat.le_add_right _ _)⟩
    · exact ⟨by simp, ktu_new F (Nat.le_refl _)⟩
    · exact ⟨by simp, ktu_new F (Nat.le_add_right _ _)⟩
  · intro b hb
    simp only [List.mem_cons, List.not_mem_nil, or_false] at hb
    rcases hb with rfl | rfl | rfl | rfl <;> simp
  · intro b hb
    simp only [List.mem_cons, List.mem_append, List.not_mem_nil, or_false] at hb
    rcases hb with rfl | rfl | rfl | rfl | rfl | rfl
    · exact .inl (by simp)
    · exact .inl (by simp)
    · exact .inl (by simp)
    · exact .inl (by simp)
    · exact .inl (by simp)
    · exact .inr ⟨lo, by simp⟩
  · intro hb
    simp only [List.mem_cons, List.mem_append, List.not_mem_nil, or_false] at hb
    rcases hb with e | e | e | e | e | e
    · exact ktu_ne 4 hLs e
    · exact ktu_ne 2 hLs e
    · exact ktu_ne 3 hLs e
    · exact Nat.ne_of_lt hLs e
    · exact ktu_ne 1 hLs e
    · exact hax.2.1 e.symm
  · intro p hp hI'
    have hlp := Heap.lt_size (N p hp).1
    simp only [List.mem_cons, List.not_mem_nil, or_false] at hI'
    rcases hI' with e | e | e | e
    · exact ktu_ne 4 hlp e
    · exact ktu_ne 3 hlp e
    · exact Nat.ne_of_lt hlp e
    · exact ktu_ne 1 hlp e
  · exact ⟨hz, hTI, ⟨_, _, hTO⟩, hi1, hi2, hl.at fun o e => hk l o e⟩
end
end Mine
end
section
open PySem PySem.W PyProof.Rows PySem.Calls PySem.Spec PyProof.V
set_option Elab.async false
set_option maxRecDepth 100000
set_option maxHeartbeats 2000000
set_option linter.unusedVariables false
namespace Mine
def okR (key : Str) : Rd → Bool
  | .ok k v => decide (k = key) && PyData.strOk v
  | .bad _ => true
theorem items_more : ∀ key ∈ keysL, ∀ g ∈ signsL, ∀ d ∈ List.range 8, (decide ((itemOf key g d).1.length ≤ 16) && PyData.strOk (itemOf key g d).1 && okR key (itemOf key g d).2) = true := by decide +kernel
/-- one item and what it reads as -/
structure It1 (t : Str) (r : Rd) : Prop where
  says : parse1 t = some r
  len : t.length ≤ 16
  str : PyData.strOk t = true
  keys : ∀ k v, r = .ok k v → k ∈ keysL ∧ PyData.strOk v = true
theorem it_of {key g : Str} {d : Nat} (hk : key ∈ keysL) (hg : g ∈ signsL) (hd : d < 8) : It1 (itemOf key g d).1 (itemOf key g d).2 := by
  have h1 := items_say key hk g hg d (List.mem_range.mpr hd)
  have h2 := items_more key hk g hg d (List.mem_range.mpr hd)
  simp only [Bool.and_eq_true, decide_eq_true_eq] at h2
  refine ⟨h1, h2.1.1, h2.1.2, fun k v e => ?_⟩
  have h3 := h2.2
  rw [e] at h3
  simp only [okR, Bool.and_eq_true, decide_eq_true_eq] at h3
  exact ⟨h3.1 ▸ hk, h3.2⟩
/-- all of them -/
structure Its (ts : List Str) (rs : List Rd) : Prop where
  len : ts.length = rs.length
  at' : ∀ (i : Nat) t r, ts[i]? = some t → rs[i]? = some r → It1 t r
theorem Its.nil : Its [] [] := ⟨rfl, fun i t r h => by simp at h⟩
theorem Its.map {ts : List Str} {rs : List Rd} (H : Its ts rs) : ts.map parse1 = rs.map some := by
  refine List.ext_getElem? fun i => ?_
  rw [List.getElem?_map, List.getElem?_map]
  cases h : ts[i]? with
  | none =>
    have : rs[i]? = none := by rw [List.getElem?_eq_none_iff] at h ⊢; have := H.len; omega
    rw [this]; rfl
  | some t =>
    have hi := (List.getElem?_eq_some_iff.mp h).1
    have hi2 : i < rs.length := by have := H.len; omega
    have h2 : rs[i]? = some rs[i] := List.getElem?_eq_getElem hi2
    rw [h2]
    simp only [Option.map_some]
    rw [(H.at' i t _ h h2).says]
theorem Its.mem {ts : List Str} {rs : List Rd} (H : Its ts rs) {t : Str} (h : t ∈ ts) : t.length ≤ 16 ∧ PyData.strOk t = true := by
  obtain ⟨i, hi⟩ := List.mem_iff_getElem?.mp h
  have hlt := (List.getElem?_eq_some_iff.mp hi).1
  have := H.at' i t _ hi (List.getElem?_eq_getElem (by have := H.len; omega))
  exact ⟨this.len, this.str⟩
theorem Its.memR {ts : List Str} {rs : List Rd} (H : Its ts rs) {k v : Str} (h : Rd.ok k v ∈ rs) : k ∈ keysL ∧ PyData.strOk v = true := by
  obtain ⟨i, hi⟩ := List.mem_iff_getElem?.mp h
  have hlt := (List.getElem?_eq_some_iff.mp hi).1
  exact (H.at' i _ _ (List.getElem?_eq_getElem (by have := H.len; omega)) hi).keys k v rfl
theorem Its.snoc {ts : List Str} {rs : List Rd} (H : Its ts rs) {t : Str} {r : Rd} (h : It1 t r) : Its (ts ++ [t]) (rs ++ [r]) := by
  refine ⟨by simp [H.len], fun i t' r' h1 h2 => ?_⟩
  by_cases hi : i < ts.length
  · rw [List.getElem?_append_left hi] at h1
    rw [List.getElem?_append_left (by have := H.len; omega)] at h2
    exact H.at' i t' r' h1 h2
  · rw [List.getElem?_append_right (by omega)] at h1
    rw [List.getElem?_append_right (by have := H.len; omega)] at h2
    have e1 : i - ts.length = 0 := by
      rcases Nat.eq_zero_or_pos (i - ts.length) with q | q
      · exact q
      · rw [List.getElem?_eq_none (by simp; omega)] at h1; cases h1
    have e2 : i - rs.length = 0 := by have := H.len; omega
    rw [e1] at h1
    rw [e2] at h2
    simp only [List.getElem?_cons_zero, Option.some.injEq] at h1 h2
    subst h1 h2
    exact h
theorem Its.put {ts : List Str} {rs : List Rd} (H : Its ts rs) {t : Str} {r : Rd} (h : It1 t r) {p : Nat} (hp : p < ts.length) : Its (ts.take p ++ [t] ++ ts.drop (p + 1)) (rs.take p ++ [r] ++ rs.drop (p + 1)) := by
  have hl := H.len
  have g : ∀ {α : Type} (l : List α) (x : α) (i : Nat), p < l.length → (l.take p ++ [x] ++ l.drop (p + 1))[i]? = if i = p then some x else l[i]? := by
    intro α l x i hpl
    have e : l.take p ++ [x] ++ l.drop (p + 1) = l.set p x := by
      rw [List.set_eq_take_append_cons_drop, if_pos hpl]; simp
    rw [e, List.getElem?_set]
    by_cases q : p = i
    · subst q; simp [hpl]
    · rw [if_neg q, if_neg (fun z => q z.symm)]
  refine ⟨by simp; omega, fun i t' r' h1 h2 => ?_⟩
  rw [g _ _ _ hp] at h1
  rw [g _ _ _ (by omega)] at h2
  by_cases q : i = p
  · rw [if_pos q] at h1 h2
    cases h1; cases h2
    exact h
  · rw [if_neg q] at h1 h2
    exact H.at' i t' r' h1 h2
theorem put_get {α : Type} {l : List α} {x : α} {p : Nat} (hp : p < l.length) (i : Nat) : (l.take p ++ [x] ++ l.drop (p + 1))[i]? = if i = p then some x else l[i]? := by
  have e : l.take p ++ [x] ++ l.drop (p + 1) = l.set p x := by
    rw [List.set_eq_take_append_cons_drop, if_pos hp]; simp
  rw [e, List.getElem?_set]
  by_cases q : p = i
  · subst q; simp [hp]
  · rw [if_neg q, if_neg (fun z => q z.symm)]
/-- a row or a fault for each item of a set of places -/
structure IdxOn (rs : List Rd) (S : Nat → Prop) (rows : List (Str × Int)) (fs : List Int) : Prop where
  srt : Sorted (rows.map code)
  mem : ∀ x, x ∈ rows ↔ ∃ (i : Nat) (v : Str), S i ∧ rs[i]? = some (Rd.ok x.1 v) ∧ x.2 = (i : Int)
  fsrt : Sorted fs
  fmem : ∀ y, y ∈ fs ↔ ∃ (i : Nat) (b : Bool), S i ∧ rs[i]? = some (Rd.bad b) ∧ y = (i : Int)
theorem Idx.outOk {rs : List Rd} {rows rows' : List (Str × Int)} {fs : List Int} (I : Idx rs rows fs) {p : Nat} {k v : Str} (hp : rs[p]? = some (.ok k v)) (hs : Sorted (rows'.map code)) (hm : ∀ y, y ∈ rows' ↔ y ∈ rows ∧ y ≠ (k, (p : Int))) : IdxOn rs (fun i => i ≠ p) rows' fs := by
  refine ⟨hs, fun x => ?_, I.fsrt, fun y => ?_⟩
  · rw [hm, I.mem]
    constructor
    · rintro ⟨⟨i, v', h1, h2⟩, hne⟩
      refine ⟨i, v', fun e => hne ?_, h1, h2⟩
      subst e
      rw [hp] at h1
      have := (Rd.ok.inj (Option.some.inj h1)).1
      exact Prod.ext this.symm h2
    · rintro ⟨i, v', hne, h1, h2⟩
      refine ⟨⟨i, v', h1, h2⟩, fun e => hne ?_⟩
      rw [e] at h2
      dsimp only at h2; omega
  · rw [I.fmem]
    constructor
    · rintro ⟨i, b, h1, h2⟩
      exact ⟨i, b, (fun e => by subst e; rw [hp] at h1; cases h1), h1, h2⟩
    · rintro ⟨i, b, _, h1, h2⟩
      exact ⟨i, b, h1, h2⟩
theorem Idx.outBad {rs : List Rd} {rows : List (Str × Int)} {fs fs' : List Int} (I : Idx rs rows fs) {p : Nat} {b : Bool} (hp : rs[p]? = some (.bad b)) (hs : Sorted fs') (hm : ∀ y, y ∈ fs' ↔ y ∈ fs ∧ y ≠ (p : Int)) : IdxOn rs (fun i => i ≠ p) rows fs' := by
  refine ⟨I.srt, fun x => ?_, hs, fun y => ?_⟩
  · rw [I.mem]
    constructor
    · rintro ⟨i, v, h1, h2⟩
      exact ⟨i, v, (fun e => by subst e; rw [hp] at h1; cases h1), h1, h2⟩
    · rintro ⟨i, v, _, h1, h2⟩
      exact ⟨i, v, h1, h2⟩
  · rw [hm, I.fmem]
    constructor
    · rintro ⟨⟨i, b', h1, h2⟩, hne⟩
      exact ⟨i, b', fun e => hne (by rw [h2, e]), h1, h2⟩
    · rintro ⟨i, b', hne, h1, h2⟩
      exact ⟨⟨i, b', h1, h2⟩, fun e => hne (by omega)⟩
theorem IdxOn.inOk {rs rs' : List Rd} {rows rows' : List (Str × Int)} {fs : List Int} {p : Nat} {S S' : Nat → Prop} (I : IdxOn rs S rows fs) {k v : Str} (hr : ∀ i, S i → rs'[i]? = rs[i]?) (hp : rs'[p]? = some (.ok k v)) (hS : ∀ i, S' i ↔ S i ∨ i = p) (hs : Sorted (rows'.map code)) (hm : ∀ y, y ∈ rows' ↔ y = (k, (p : Int)) ∨ y ∈ rows) : IdxOn rs' S' rows' fs := by
  refine ⟨hs, fun x => ?_, I.fsrt, fun y => ?_⟩
  · rw [hm, I.mem]
    constructor
    · rintro (e | ⟨i, v', hne, h1, h2⟩)
      · subst e
        exact ⟨p, v, (hS p).mpr (.inr rfl), hp, rfl⟩
      · exact ⟨i, v', (hS i).mpr (.inl hne), by rw [hr i hne]; exact h1, h2⟩
    · rintro ⟨i, v', h0, h1, h2⟩
      rcases (hS i).mp h0 with q | q
      · exact .inr ⟨i, v', q, by rw [← hr i q]; exact h1, h2⟩
      · subst q
        rw [hp] at h1
        left
        have := (Rd.ok.inj (Option.some.inj h1)).1
        exact Prod.ext this.symm h2
  · rw [I.fmem]
    constructor
    · rintro ⟨i, b, hne, h1, h2⟩
      exact ⟨i, b, (hS i).mpr (.inl hne), by rw [hr i hne]; exact h1, h2⟩
    · rintro ⟨i, b, h0, h1, h2⟩
      rcases (hS i).mp h0 with q | q
      · exact ⟨i, b, q, by rw [← hr i q]; exact h1, h2⟩
      · subst q; rw [hp] at h1; cases h1
theorem IdxOn.inBad {rs rs' : List Rd} {rows : List (Str × Int)} {fs fs' : List Int} {p : Nat} {S S' : Nat → Prop} (I : IdxOn rs S rows fs) {b : Bool} (hr : ∀ i, S i → rs'[i]? = rs[i]?) (hp : rs'[p]? = some (.bad b)) (hS : ∀ i, S' i ↔ S i ∨ i = p) (hs : Sorted fs') (hm : ∀ y, y ∈ fs' ↔ y = (p : Int) ∨ y ∈ fs) : IdxOn rs' S' rows fs' := by
  refine ⟨I.srt, fun x => ?_, hs, fun y => ?_⟩
  · rw [I.mem]
    constructor
    · rintro ⟨i, v, hne, h1, h2⟩
      exact ⟨i, v, (hS i).mpr (.inl hne), by rw [hr i hne]; exact h1, h2⟩
    · rintro ⟨i, v, h0, h1, h2⟩
      rcases (hS i).mp h0 with q | q
      · exact ⟨i, v, q, by rw [← hr i q]; exact h1, h2⟩
      · subst q; rw [hp] at h1; cases h1
  · rw [hm, I.fmem]
    constructor
    · rintro (e | ⟨i, b', hne, h1, h2⟩)
      · exact ⟨p, b, (hS p).mpr (.inr rfl), hp, e⟩
      · exact ⟨i, b', (hS i).mpr (.inl hne), by rw [hr i hne]; exact h1, h2⟩
    · rintro ⟨i, b', h0, h1, h2⟩
      rcases (hS i).mp h0 with q | q
      · exact .inr ⟨i, b', q, by rw [← hr i q]; exact h1, h2⟩
      · left; rw [h2, q]
theorem IdxOn.rowOk {rs : List Rd} {S : Nat → Prop} {rows : List (Str × Int)} {fs : List Int} (I : IdxOn rs S rows fs) (hl : rs.length = 5) (hk : ∀ k v, Rd.ok k v ∈ rs → k ∈ keysL) : ∀ r ∈ rows, RowOk r := by
  intro r hr
  obtain ⟨i, v, _, h1, h2⟩ := (I.mem r).mp hr
  have hi := (List.getElem?_eq_some_iff.mp h1).1
  exact ⟨hk _ v (List.mem_of_getElem? h1), by omega, by omega⟩
theorem IdxOn.notRow {rs : List Rd} {p : Nat} {S : Nat → Prop} {rows : List (Str × Int)} {fs : List Int} (I : IdxOn rs S rows fs) (hl : rs.length = 5) (hk : ∀ k v, Rd.ok k v ∈ rs → k ∈ keysL) {k : Str} (hkk : k ∈ keysL) (hp : p < 5) (hS : ¬ S p) : code (k, (p : Int)) ∉ rows.map code := by
  intro h
  obtain ⟨r, hr, e⟩ := List.mem_map.mp h
  have e2 := code_inj (I.rowOk hl hk r hr) ⟨hkk, by dsimp only; omega, by dsimp only; omega⟩ e
  obtain ⟨i, v, hne, _, h2⟩ := (I.mem r).mp hr
  rw [e2] at h2
  dsimp only at h2
  have : p = i := by omega
  exact hS (this ▸ hne)
theorem IdxOn.notFault {rs : List Rd} {p : Nat} {S : Nat → Prop} {rows : List (Str × Int)} {fs : List Int} (I : IdxOn rs S rows fs) (hS : ¬ S p) : (p : Int) ∉ fs := by
  intro h
  obtain ⟨i, b, hne, _, h2⟩ := (I.fmem _).mp h
  have : p = i := by omega
  exact hS (this ▸ hne)
theorem IdxOn.flen {rs : List Rd} {S : Nat → Prop} {rows : List (Str × Int)} {fs : List Int} (I : IdxOn rs S rows fs) (hl : rs.length = 5) : fs.length ≤ 64 := by
  refine Nat.le_trans (len_bound fs 0 5 I.fsrt fun y hy => ?_) (by decide)
  obtain ⟨i, b, _, h1, h2⟩ := (I.fmem y).mp hy
  have hi := (List.getElem?_eq_some_iff.mp h1).1
  omega
theorem IdxOn.rlen {rs : List Rd} {S : Nat → Prop} {rows : List (Str × Int)} {fs : List Int} (I : IdxOn rs S rows fs) (hl : rs.length = 5) (hk : ∀ k v, Rd.ok k v ∈ rs → k ∈ keysL) : rows.length ≤ 64 := by
  have h := len_bound (rows.map code) (-1) 64 I.srt fun y hy => by
    obtain ⟨r, hr, rfl⟩ := List.mem_map.mp hy
    obtain ⟨h1, h2, h3⟩ := I.rowOk hl hk r hr
    have e : ∀ x ∈ keysL, 0 ≤ rk x ∧ rk x ≤ 2 := by decide +kernel
    obtain ⟨e1, e2⟩ := e _ h1
    unfold code
    omega
  simpa using h
theorem IdxOn.idx {rs : List Rd} {S : Nat → Prop} {rows : List (Str × Int)} {fs : List Int} (I : IdxOn rs S rows fs) (hl : rs.length = 5) (hk : ∀ k v, Rd.ok k v ∈ rs → k ∈ keysL) (hS : ∀ i, i < 5 → S i) : Idx rs rows fs := by
  refine ⟨hl, hk, I.srt, fun x => ?_, I.fsrt, fun y => ?_⟩
  · rw [I.mem]
    exact ⟨fun ⟨i, v, _, h⟩ => ⟨i, v, h⟩, fun ⟨i, v, h1, h2⟩ => ⟨i, v, hS i (by have := (List.getElem?_eq_some_iff.mp h1).1; omega), h1, h2⟩⟩
  · rw [I.fmem]
    exact ⟨fun ⟨i, v, _, h⟩ => ⟨i, v, h⟩, fun ⟨i, v, h1, h2⟩ => ⟨i, v, hS i (by have := (List.getElem?_eq_some_iff.mp h1).1; omega), h1, h2⟩⟩
/-- where no frame stands below, nothing turns -/
theorem turn_fr {g kg h : Heap} {L : Addr} {m : Str → Option Value} (T : KtsTurn [] g kg) (F : Fr kg L h m) : Fr g L h m := ⟨F.ns, fun b o e => F.keep b o (T.other b o e (fun h => nomatch h)), by rw [← T.size]; exact F.above⟩
theorem turn_news {g kg h : Heap} {L : Addr} {nw : List (Addr × Obj)} (T : KtsTurn [] g kg) (N : News kg L h nw) : News g L h nw := fun p hp => ⟨(N p hp).1, (N p hp).2.1, kts_none (fun b o e => T.other b o e (fun h => nomatch h)) (N p hp).2.2⟩
def lM (li ld lx lf sl : Addr) (u : Str → Option Value) : Str → Option Value := fun y =>
  if y = Str.ofString "items" then some (.ref li) else if y = Str.ofString "drawn" then some (.ref ld) else if y = Str.ofString "index" then some (.ref lx) else if y = Str.ofString "faults" then some (.ref lf) else if y = Str.ofString "script" then some (.ref sl) else u y
theorem lM_eq {li ld lx lf sl : Addr} {m : Str → Option Value} (e1 : m (Str.ofString "items") = some (.ref li)) (e2 : m (Str.ofString "drawn") = some (.ref ld)) (e3 : m (Str.ofString "index") = some (.ref lx)) (e4 : m (Str.ofString "faults") = some (.ref lf)) (e5 : m (Str.ofString "script") = some (.ref sl)) : m = lM li ld lx lf sl m := funext fun y => by
  unfold lM
  by_cases a : y = Str.ofString "items"
  · rw [if_pos a, a]; exact e1
  · rw [if_neg a]
    by_cases b : y = Str.ofString "drawn"
    · rw [if_pos b, b]; exact e2
    · rw [if_neg b]
      by_cases c : y = Str.ofString "index"
      · rw [if_pos c, c]; exact e3
      · rw [if_neg c]
        by_cases d : y = Str.ofString "faults"
        · rw [if_pos d, d]; exact e4
        · rw [if_neg d]
          by_cases e : y = Str.ofString "script"
          · rw [if_pos e, e]; exact e5
          · rw [if_neg e]
end Mine
end
section
open PySem PySem.W PyProof.Rows PySem.Calls PySem.Spec PyProof.V
set_option Elab.async false
set_option maxRecDepth 100000
set_option maxHeartbeats 2000000
namespace Mine
section
variable {prog : Program} {w : World} {A : Around} {E : Value → Shared → Prop} {s : Shared} {env : Env} {h₀ : Heap} {body : List Stmt} {Q : Flow → Shared → Prop}
theorem iter_range5 {x : Str} {px : Pos} {r : Addr} {t u v : Tok} {m₀ : Str → Option Value} {news : List (Addr × Obj)} (hh : A.handled = none) (hr : IsRange s.heap r 0 5 1 t u v) (F : Fr h₀ env.locals s.heap m₀) (N : News h₀ env.locals s.heap news)
    (rest₀ : ∀ I : Addr, (∀ p ∈ news, p.1 < I) → ItemsRest prog w A E h₀ env (.Name x px) body Q s [(I, "range_iterator")] [] ((List.range 5).map fun (i : Nat) => Itm.tok fun t => .int (i : Int) t) m₀ news) :
    wpAny (model prog w) A (pyIter (.ref r)) (fun it s₂ => TurnsAt prog w A h₀ env (.Name x px) body Q E it s₂) E s := by
  refine wpAny_pyIter_range hr (by decide) ?_
  have hsz : Builtin.Range.rangeSize 0 5 1 = (5 : Int) := by decide
  refine ktu_core (tk0 := s.toks) (keep := []) (KTurns.ofWalks (target := .Name x px) (LCg.range_walks hh 0 5).bound fun i v s Q E st q => ?_) (by simp) (fun i v h hp => ?_) (fun i h st => ?_) (fun b hb => ?_) (fun b hb => by simpa using hb) (fun b hb => ?_) (fun hL => ?_) (fun p hp hI => ?_) ?_ (F.push _) (fun p hp => ⟨Heap.get?_push_of_some _ (N p hp).1, (N p hp).2⟩) trivial (rest₀ _ fun p hp => Heap.lt_size (N p hp).1)
  · exact wpAny_pure q
  · obtain ⟨hp', t, e⟩ := hp
    refine ⟨.tok fun t => .int (i : Int) t, ?_, t, ?_⟩
    · simp [hp']
    · rw [e]; simp
  · exact ⟨[(s.heap.objs.size, _)], ⟨⟨rfl, rfl⟩, trivial⟩, fun p hp => by rw [List.mem_singleton.mp hp]; exact st⟩
  · have hb' : b = s.heap.objs.size := by simpa using hb
    rw [hb']
    exact ⟨List.mem_cons_self .., next_is_new F⟩
  · have hb' : b = s.heap.objs.size := by simpa using hb
    exact .inl (by simp [hb'])
  · exact absurd F.ns.lt ((List.mem_singleton.mp hL) ▸ Nat.lt_irrefl _)
  · exact absurd (Heap.lt_size (N p hp).1) ((List.mem_singleton.mp hI) ▸ Nat.lt_irrefl _)
  · show IsRangeIter _ _ _ _ _
    rw [hsz]
    simpa using Heap.get?_push_size _ rfl
end
end Mine
end
section
open PySem PySem.W PyProof.Rows PySem.Calls PySem.Spec PyProof.V
set_option Elab.async false
set_option maxRecDepth 100000
set_option maxHeartbeats 2000000
set_option linter.unusedVariables false
namespace Mine
def clean (big : List (Addr × Obj)) (off : List Addr) : List (Addr × Obj) := big.filter fun p => decide (p.1 ∉ off)
theorem mem_clean {big : List (Addr × Obj)} {off : List Addr} {p : Addr × Obj} : p ∈ clean big off ↔ p ∈ big ∧ p.1 ∉ off := by simp [clean]
theorem clean_mono {big big' : List (Addr × Obj)} {off : List Addr} (h : ∀ p ∈ big, p ∈ big') : ∀ p ∈ clean big off, p ∈ clean big' off := fun p hp => mem_clean.mpr ⟨h p (mem_clean.mp hp).1, (mem_clean.mp hp).2⟩
theorem rows_off {h₀ h : Heap} {L : Addr} {big : List (Addr × Obj)} (N : News h₀ L h big) {off : List Addr} (ho : ∀ b ∈ off, ∃ o, (b, o) ∈ big ∧ ∀ k p t u n, o ≠ rowObj k p t u n) : ∀ {vs : List Value} {rows : List (Str × Int)}, DatAll big vs (rows.map rowDat) → DatAll (clean big off) vs (rows.map rowDat) := by
  intro vs rows
  induction rows generalizing vs with
  | nil => intro h; cases h; exact .nil
  | cons r rows ih =>
    intro h
    cases h with
    | cons h1 h2 =>
      refine .cons ?_ (ih h2)
      obtain ⟨a, t, u, n, rfl, hm⟩ := row_of h1
      refine .list (vs := [.str r.1 t, .int r.2 u]) (mem_clean.mpr ⟨hm, fun ha => ?_⟩) (.cons (.str _ _) (.cons (.int _ _) .nil))
      obtain ⟨o, ho1, ho2⟩ := ho _ ha
      have e1 := (N _ ho1).1
      have e2 := (N _ hm).1
      dsimp only at e1 e2
      rw [e1] at e2
      exact ho2 _ _ _ _ _ (Option.some.inj e2)
theorem seq_inj {a b : Array Value} {n m : Nat} (h : (listOf a n : Obj) = listOf b m) : a = b := by
  unfold W.listOf at h
  injection h with h1 h2 h3
  injection h3
theorem ints_notRow {fvs : List Value} {fs : List Int} {nf : Nat} (h : IntsAre fvs fs) : ∀ k p t u n, listOf fvs.toArray nf ≠ rowObj k p t u n := by
  intro k p t u n e
  have e2 := congrArg Array.toList (seq_inj e)
  simp only at e2
  subst e2
  cases h
theorem rows_notRow {big : List (Addr × Obj)} {xvs : List Value} {rows : List (Str × Int)} {nx : Nat} (h : DatAll big xvs (rows.map rowDat)) : ∀ k p t u n, listOf xvs.toArray nx ≠ rowObj k p t u n := by
  intro k p t u n e
  have e2 := congrArg Array.toList (seq_inj e)
  simp only at e2
  subst e2
  cases rows with
  | nil => cases h
  | cons r rows =>
    cases h with
    | cons h1 h2 =>
      obtain ⟨a, t, u, n, e, hm⟩ := row_of h1
      cases e
structure LS (big : List (Addr × Obj)) (off : List Addr) (li ld lx lf : Addr) (ts : List Str) (rs : List Rd) (rows : List (Str × Int)) (fs : List Int) : Prop where
  items : ∃ ivs ni, (li, listOf (List.toArray ivs) ni) ∈ big ∧ StrsAre ivs ts
  drawn : ∃ dvs nd, (ld, listOf (List.toArray dvs) nd) ∈ big ∧ DatAll (clean big (lx :: lf :: off)) dvs (rs.map rdDat)
  index : ∃ xvs nx, (lx, listOf (List.toArray xvs) nx) ∈ big ∧ DatAll big xvs (rows.map rowDat)
  faults : ∃ fvs nf, (lf, listOf (List.toArray fvs) nf) ∈ big ∧ IntsAre fvs fs
  offI : li ∉ lx :: lf :: off
  offD : ld ∉ lx :: lf :: off
  offX : lx ∉ lf :: off
  offF : lf ∉ off
  its : Its ts rs
section
variable {big big' : List (Addr × Obj)} {off a : List Addr} {li ld lx lf : Addr} {ts : List Str} {rs : List Rd} {rows rows' : List (Str × Int)} {fs fs' : List Int} {g h : Heap} {L : Addr}
theorem LS.grow (H : LS big off li ld lx lf ts rs rows fs) (hs : ∀ p ∈ big, p ∈ big') : LS big' off li ld lx lf ts rs rows fs := by
  obtain ⟨⟨ivs, ni, a1, a2⟩, ⟨dvs, nd, b1, b2⟩, ⟨xvs, nx, c1, c2⟩, ⟨fvs, nf, d1, d2⟩, e1, e2, e3, e4, e5⟩ := H
  exact ⟨⟨ivs, ni, hs _ a1, a2⟩, ⟨dvs, nd, hs _ b1, b2.mono (clean_mono hs)⟩, ⟨xvs, nx, hs _ c1, c2.mono hs⟩, ⟨fvs, nf, hs _ d1, d2⟩, e1, e2, e3, e4, e5⟩
/-- as a turn begins: what the loop made is off -/
theorem LS.start (H : LS big off li ld lx lf ts rs rows fs) (hs : ∀ p ∈ big, p ∈ big') (ha : ∀ p ∈ big, p.1 ∉ a) : LS big' (a ++ off) li ld lx lf ts rs rows fs := by
  obtain ⟨⟨ivs, ni, a1, a2⟩, ⟨dvs, nd, b1, b2⟩, ⟨xvs, nx, c1, c2⟩, ⟨fvs, nf, d1, d2⟩, e1, e2, e3, e4, e5⟩ := H
  simp only [List.mem_cons, not_or] at e1 e2 e3
  have k1 : lx ∉ a := ha _ c1
  have k2 : lf ∉ a := ha _ d1
  refine ⟨⟨ivs, ni, hs _ a1, a2⟩, ⟨dvs, nd, hs _ b1, b2.mono fun p hp => ?_⟩, ⟨xvs, nx, hs _ c1, c2.mono hs⟩, ⟨fvs, nf, hs _ d1, d2⟩, ?_, ?_, ?_, ?_, e5⟩
  · have := mem_clean.mp hp
    have h1 := this.2
    simp only [List.mem_cons, not_or] at h1
    refine mem_clean.mpr ⟨hs _ this.1, ?_⟩
    simp only [List.mem_cons, List.mem_append, not_or]
    exact ⟨h1.1, h1.2.1, ha _ this.1, h1.2.2⟩
  · simp only [List.mem_cons, List.mem_append, not_or]
    exact ⟨e1.1, e1.2.1, ha _ a1, e1.2.2⟩
  · simp only [List.mem_cons, List.mem_append, not_or]
    exact ⟨e2.1, e2.2.1, ha _ b1, e2.2.2⟩
  · simp only [List.mem_cons, List.mem_append, not_or]
    exact ⟨e3.1, k1, e3.2⟩
  · simp only [List.mem_append, not_or]
    exact ⟨k2, e4⟩
theorem LS.index_at (H : LS big off li ld lx lf ts rs rows fs) (N : News g L h big) (ho : ∀ b ∈ off, ∃ o, (b, o) ∈ big ∧ ∀ k p t u n, o ≠ rowObj k p t u n) : ∃ xvs nx, (lx, listOf (List.toArray xvs) nx) ∈ big ∧ DatAll (clean big (lx :: lf :: off)) xvs (rows.map rowDat) := by
  obtain ⟨_, _, ⟨xvs, nx, c1, c2⟩, ⟨fvs, nf, d1, d2⟩, e1, e2, e3, e4, e5⟩ := H
  refine ⟨xvs, nx, c1, rows_off N (fun b hb => ?_) c2⟩
  rcases List.mem_cons.mp hb with rfl | hb
  · exact ⟨_, c1, rows_notRow c2⟩
  · rcases List.mem_cons.mp hb with rfl | hb
    · exact ⟨_, d1, ints_notRow d2⟩
    · exact ho b hb
/-- as a turn ends -/
theorem LS.fin (H : LS big (a ++ off) li ld lx lf ts rs rows fs) (N : News g L h big) (ho : ∀ b ∈ a ++ off, ∃ o, (b, o) ∈ big ∧ ∀ k p t u n, o ≠ rowObj k p t u n) : LS (clean big a) off li ld lx lf ts rs rows fs := by
  obtain ⟨xvs, nx, c1, c2⟩ := H.index_at N ho
  obtain ⟨⟨ivs, ni, a1, a2⟩, ⟨dvs, nd, b1, b2⟩, _, ⟨fvs, nf, d1, d2⟩, e1, e2, e3, e4, e5⟩ := H
  simp only [List.mem_cons, List.mem_append, not_or] at e1 e2 e3 e4
  refine ⟨⟨ivs, ni, mem_clean.mpr ⟨a1, e1.2.2.1⟩, a2⟩, ⟨dvs, nd, mem_clean.mpr ⟨b1, e2.2.2.1⟩, b2.mono fun p hp => ?_⟩, ⟨xvs, nx, mem_clean.mpr ⟨c1, e3.2.1⟩, c2.mono fun p hp => ?_⟩, ⟨fvs, nf, mem_clean.mpr ⟨d1, e4.1⟩, d2⟩, ?_, ?_, ?_, e4.2, e5⟩
  · have := mem_clean.mp hp
    have h1 := this.2
    simp only [List.mem_cons, List.mem_append, not_or] at h1
    refine mem_clean.mpr ⟨mem_clean.mpr ⟨this.1, h1.2.2.1⟩, ?_⟩
    simp only [List.mem_cons, not_or]
    exact ⟨h1.1, h1.2.1, h1.2.2.2⟩
  · have := mem_clean.mp hp
    have h1 := this.2
    simp only [List.mem_cons, List.mem_append, not_or] at h1
    exact mem_clean.mpr ⟨this.1, h1.2.2.1⟩
  · simp only [List.mem_cons, not_or]
    exact ⟨e1.1, e1.2.1, e1.2.2.2⟩
  · simp only [List.mem_cons, not_or]
    exact ⟨e2.1, e2.2.1, e2.2.2.2⟩
  · simp only [List.mem_cons, not_or]
    exact ⟨e3.1, e3.2.2⟩
/-- the index turned -/
theorem LS.setX (H : LS big off li ld lx lf ts rs rows fs) {vs : List Value} {n : Nat} (hs : ∀ p ∈ clean big [lx], p ∈ big') (hx : (lx, listOf vs.toArray n) ∈ big') (hd : DatAll big' vs (rows'.map rowDat)) : LS big' off li ld lx lf ts rs rows' fs := by
  obtain ⟨⟨ivs, ni, a1, a2⟩, ⟨dvs, nd, b1, b2⟩, ⟨xvs, nx, c1, c2⟩, ⟨fvs, nf, d1, d2⟩, e1, e2, e3, e4, e5⟩ := H
  simp only [List.mem_cons, not_or] at e1 e2 e3
  refine ⟨⟨ivs, ni, hs _ (mem_clean.mpr ⟨a1, by simpa using e1.1⟩), a2⟩, ⟨dvs, nd, hs _ (mem_clean.mpr ⟨b1, by simpa using e2.1⟩), b2.mono fun p hp => ?_⟩, ⟨vs, n, hx, hd⟩, ⟨fvs, nf, hs _ (mem_clean.mpr ⟨d1, by simpa using fun e => e3.1 e.symm⟩), d2⟩, by simp only [List.mem_cons, not_or]; exact e1, by simp only [List.mem_cons, not_or]; exact e2, by simp only [List.mem_cons, not_or]; exact e3, e4, e5⟩
  have := mem_clean.mp hp
  have h1 := this.2
  simp only [List.mem_cons, not_or] at h1
  exact mem_clean.mpr ⟨hs _ (mem_clean.mpr ⟨this.1, by simpa using h1.1⟩), this.2⟩
/-- the faults turned -/
theorem LS.setF (H : LS big off li ld lx lf ts rs rows fs) (N : News g L h big) {vs : List Value} {n : Nat} (hs : ∀ p ∈ clean big [lf], p ∈ big') (hx : (lf, listOf vs.toArray n) ∈ big') (hd : IntsAre vs fs') : LS big' off li ld lx lf ts rs rows fs' := by
  obtain ⟨⟨ivs, ni, a1, a2⟩, ⟨dvs, nd, b1, b2⟩, ⟨xvs, nx, c1, c2⟩, ⟨fvs, nf, d1, d2⟩, e1, e2, e3, e4, e5⟩ := H
  simp only [List.mem_cons, not_or] at e1 e2 e3
  have hr := rows_off N (off := [lf]) (fun b hb => ⟨_, (List.mem_singleton.mp hb) ▸ d1, ints_notRow d2⟩) c2
  refine ⟨⟨ivs, ni, hs _ (mem_clean.mpr ⟨a1, by simpa using e1.2.1⟩), a2⟩, ⟨dvs, nd, hs _ (mem_clean.mpr ⟨b1, by simpa using e2.2.1⟩), b2.mono fun p hp => ?_⟩, ⟨xvs, nx, hs _ (mem_clean.mpr ⟨c1, by simpa using e3.1⟩), hr.mono hs⟩, ⟨vs, n, hx, hd⟩, by simp only [List.mem_cons, not_or]; exact e1, by simp only [List.mem_cons, not_or]; exact e2, by simp only [List.mem_cons, not_or]; exact e3, e4, e5⟩
  have := mem_clean.mp hp
  have h1 := this.2
  simp only [List.mem_cons, not_or] at h1
  exact mem_clean.mpr ⟨hs _ (mem_clean.mpr ⟨this.1, by simpa using h1.2.1⟩), this.2⟩
/-- new lists of items and drawn ones -/
theorem LS.put (H : LS big off li ld lx lf ts rs rows fs) {li' ld' : Addr} {ts' : List Str} {rs' : List Rd} {ivs dvs : List Value} {ni nd : Nat} (h1 : (li', listOf (List.toArray ivs) ni) ∈ big) (h2 : StrsAre ivs ts') (h3 : (ld', listOf (List.toArray dvs) nd) ∈ big) (h4 : DatAll (clean big (lx :: lf :: off)) dvs (rs'.map rdDat)) (h5 : li' ∉ lx :: lf :: off) (h6 : ld' ∉ lx :: lf :: off) (h7 : Its ts' rs') : LS big off li' ld' lx lf ts' rs' rows fs :=
  ⟨⟨ivs, ni, h1, h2⟩, ⟨dvs, nd, h3, h4⟩, H.index, H.faults, h5, h6, H.offX, H.offF, h7⟩
/-- what is new is off them all -/
theorem LS.new (H : LS big off li ld lx lf ts rs rows fs) (ho : ∀ b ∈ off, ∃ o, (b, o) ∈ big) {D : Addr} (hD : ∀ p ∈ big, p.1 < D) : D ∉ lx :: lf :: off := by
  intro hm
  obtain ⟨xvs, nx, c1, _⟩ := H.index
  obtain ⟨fvs, nf, d1, _⟩ := H.faults
  rcases List.mem_cons.mp hm with rfl | hm
  · exact Nat.lt_irrefl _ (hD _ c1)
  · rcases List.mem_cons.mp hm with rfl | hm
    · exact Nat.lt_irrefl _ (hD _ d1)
    · obtain ⟨o, ho⟩ := ho _ hm
      exact Nat.lt_irrefl _ (hD _ ho)
end
/-- one item read -/
def ReadIs (big tl : List (Addr × Obj)) (v : Value) : Rd → Prop
  | .bad b => ∃ t, v = .str (Str.ofString (errS b)) t
  | .ok k x => ∃ b c nb nc tk v2, v = .ref b ∧ (b, listOf #[.ref c] nb) ∈ tl ∧ (c, ({ cls := .type "tuple", data := .seq #[.str k tk, v2] nc } : Obj)) ∈ tl ∧ (∀ q ∈ big, q.1 < b) ∧ ∀ q ∈ big, q.1 < c
/-- what a stretch says -/
def DueIs (tl : List (Addr × Obj)) (v : Value) (rs : List Rd) : Prop := match firstBad rs with
  | some b => ∃ t, v = .str (Str.ofString (errS b)) t
  | none => ∃ b vs n, v = .ref b ∧ (b, listOf (List.toArray vs) n) ∈ tl ∧ DatAll tl vs ((pairs rs).map pairDat)
theorem DueIs.mono {tl tl' : List (Addr × Obj)} {v : Value} {rs : List Rd} (hs : ∀ p ∈ tl, p ∈ tl') (h : DueIs tl v rs) : DueIs tl' v rs := by
  unfold DueIs at h ⊢
  cases e : firstBad rs with
  | some b => rw [e] at h; exact h
  | none =>
    rw [e] at h
    obtain ⟨b, vs, n, h1, h2, h3⟩ := h
    exact ⟨b, vs, n, h1, hs _ h2, h3.mono hs⟩
section
variable {prog : Program} {w : World} {A : Around} {E : Value → Shared → Prop} {s : Shared} {h₀ : Heap} {L : Addr} {tl : List (Addr × Obj)} {Q : Value → Shared → Prop}
theorem due_ne {v1 v2 : Value} {rs : List Rd} (N : News h₀ L s.heap tl) (h1 : DueIs tl v1 rs) (h2 : DueIs tl v2 rs) (hk : ∀ d ∈ (pairs rs).map pairDat, kqdOk 8 d = true) (hu : A.units + 64 < cLine) (q : Q (.bool false) s) : wpAny (model prog w) A (compareOp .NotEq v1 v2) Q E s := by
  unfold DueIs at h1 h2
  cases e : firstBad rs with
  | some b =>
    rw [e] at h1 h2
    obtain ⟨t, rfl⟩ := h1
    obtain ⟨u, rfl⟩ := h2
    refine ne_str ?_
    simpa using q
  | none =>
    rw [e] at h1 h2
    obtain ⟨a, vs, n, rfl, a1, a2⟩ := h1
    obtain ⟨b, ws, k, rfl, b1, b2⟩ := h2
    refine kqd_ne N a1 rfl rfl a2 (fun _ hp => hp) b1 rfl rfl b2 (fun _ hp => hp) hk hk hu ?_
    simpa using q
theorem strs_ne {a b : Addr} {vs ws : List Value} {n k : Nat} {ts : List Str} (N : News h₀ L s.heap tl) (ha : (a, listOf vs.toArray n) ∈ tl) (hv : StrsAre vs ts) (hb : (b, listOf ws.toArray k) ∈ tl) (hw : StrsAre ws ts) (hk : ∀ t ∈ ts, PyData.strOk t = true) (hu : A.units + 64 < cLine) (q : Q (.bool false) s) : wpAny (model prog w) A (compareOp .NotEq (.ref a) (.ref b)) Q E s := by
  have hd : ∀ {vs : List Value} {ts : List Str}, StrsAre vs ts → DatAll [] vs (ts.map Dat.str) := by
    intro vs ts h
    induction h with
    | nil => exact .nil
    | cons y t h ih => exact .cons (.str _ _) ih
  have ho : ∀ d ∈ ts.map Dat.str, kqdOk 8 d = true := by
    intro d hd
    obtain ⟨t, ht, rfl⟩ := List.mem_map.mp hd
    exact hk t ht
  refine kqd_ne N ha rfl rfl (hd hv) (fun _ hp => nomatch hp) hb rfl rfl (hd hw) (fun _ hp => nomatch hp) ho ho hu ?_
  simpa using q
end
theorem pairs_ok {ts : List Str} {rs : List Rd} (H : Its ts rs) {l : List Rd} (hs : ∀ r ∈ l, r ∈ rs) : ∀ d ∈ (pairs l).map pairDat, kqdOk 8 d = true := by
  intro d hd
  rw [pairs_dat] at hd
  obtain ⟨k, hk, rfl⟩ := List.mem_map.mp hd
  have hv := (keysOf_mem l k).mp hk
  have hmem : lastOf l k ∈ valsOf l k := by
    unfold lastOf
    cases e : (valsOf l k).getLast? with
    | none => exact absurd (List.getLast?_eq_none_iff.mp e) hv
    | some x => exact List.mem_of_getLast? e
  obtain ⟨r, hr, e⟩ := List.mem_filterMap.mp hmem
  cases r with
  | bad b => cases e
  | ok k' v' =>
    have e2 : (if k' = k then some v' else none) = some (lastOf l k) := e
    by_cases q : k' = k
    · rw [if_pos q] at e2
      have h1 := H.memR (hs _ hr)
      rw [q] at h1
      rw [← Option.some.inj e2]
      have h3 := keys_str h1.1
      have h4 := h1.2
      simp [kqdOk, h3, h4]
    · rw [if_neg q] at e2; cases e2
end Mine
end
section
open PySem PySem.W PyProof.Rows PySem.Calls PySem.Spec PyProof.V
set_option Elab.async false
set_option maxRecDepth 100000
set_option maxHeartbeats 2000000
set_option linter.unusedVariables false
namespace Mine
section
variable {w : World} {mean : ExcName → Option Value} {mg mb : Str → Option Value} {dp un : Nat} {gd : Option (List Code)} {cn : Str} {cs : Scope} {a : Addr} {ccd : Value} {cl : List (Str × Addr)} {A₀ : Around} {g : Heap} {L : Addr} {m : Str → Option Value} {big : List (Addr × Obj)} {s : Shared} {Q E : Value → Shared → Prop}
theorem read_step {l : Addr} {vs : List Value} {n : Nat} {ts : List Str} {rs : List Rd}
   (B : Below A₀ g [] g) (F : Fr g L s.heap m) (X : (hd.heap_39 w.params).In g) (N : News g L s.heap big) (T : Top hd.view_39 LW mean mg mb g) (hk : cs.kind = .function)
   (hl : (l, listOf vs.toArray n) ∈ big) (hv : StrsAre vs ts) (hs : ts.map parse1 = rs.map some) (hln : ∀ t ∈ ts, t.length ≤ 16) (htl : ts.length ≤ 8)
   (hdp : dp + 2 < recursionLimit) (hu : un + 16 < cLine)
   (ret : ∀ v tl h' tk', Fr g L h' m → News g L h' tl → (∀ p ∈ big, p ∈ tl) → DueIs tl v rs → Q v { s with heap := h', toks := tk' }) :
   wpAny (model PySem.Challenge.rw_pg0107_01.row.prog w) (ktrTop dp un gd cn cs L a ccd cl []) (call (.ref 71) [.ref l]) Q E s := by
  refine read_spec B F X N T X T ktsDicts_nil hk hl hv hs hln htl hdp hu ?_ ?_
  · intro b kg h' tk' t hb KT kF kN _ _ _ _
    refine ret _ _ _ _ (turn_fr KT kF) (turn_news KT kN) (fun _ hp => hp) ?_
    unfold DueIs; rw [hb]; exact ⟨t, rfl⟩
  · intro b c vs' tups h' tk' hb kF kN l1 l2 hd
    refine ret _ _ _ _ kF kN (fun p hp => by simp [hp]) ?_
    unfold DueIs; rw [hb]; exact ⟨b, vs', c, rfl, by simp, hd.mono (fun p hp => by simp [hp])⟩
theorem read1_step {l : Addr} {n : Nat} {t : Str} {tk : Tok} {r : Rd}
   (B : Below A₀ g [] g) (F : Fr g L s.heap m) (X : (hd.heap_39 w.params).In g) (N : News g L s.heap big) (T : Top hd.view_39 LW mean mg mb g) (hk : cs.kind = .function)
   (hl : (l, listOf #[.str t tk] n) ∈ big) (hi : It1 t r)
   (hdp : dp + 2 < recursionLimit) (hu : un + 16 < cLine)
   (ret : ∀ v tl h' tk', Fr g L h' m → News g L h' tl → (∀ p ∈ big, p ∈ tl) → ReadIs big tl v r → Q v { s with heap := h', toks := tk' }) :
   wpAny (model PySem.Challenge.rw_pg0107_01.row.prog w) (ktrTop dp un gd cn cs L a ccd cl []) (call (.ref 71) [.ref l]) Q E s := by
  refine read_spec (vs := [.str t tk]) (ts := [t]) (rs := [r]) B F X N T X T ktsDicts_nil hk hl (.cons _ _ .nil) (by simp [hi.says]) (fun x hx => by rw [List.mem_singleton.mp hx]; exact hi.len) (by simp) hdp hu ?_ ?_
  · intro b kg h' tk' t hb KT kF kN _ _ _ _
    refine ret _ _ _ _ (turn_fr KT kF) (turn_news KT kN) (fun _ hp => hp) ?_
    cases r with
    | ok k x => cases hb
    | bad b' => cases hb; exact ⟨t, rfl⟩
  · intro b c vs' tups h' tk' hb kF kN l1 l2 hd
    refine ret _ _ _ _ kF kN (fun p hp => by simp [hp]) ?_
    cases r with
    | bad b' => cases hb
    | ok k x =>
      have e : (pairs [Rd.ok k x]).map pairDat = [Dat.tuple [.str k, .str x]] := rfl
      rw [e] at hd
      cases hd with
      | cons h1 h2 =>
        cases h2
        cases h1 with
        | tuple hm hd =>
          cases hd with
          | cons h1 h2 =>
            cases h2 with
            | cons h2 h3 =>
              cases h3
              cases h1
              cases h2
              exact ⟨_, _, _, _, _, _, rfl, List.mem_append_right _ (.head _), List.mem_append_left _ hm, l1, fun q hq => Nat.lt_trans (l1 q hq) (l2 _ hm)⟩
variable {big0 : List (Addr × Obj)} {off : List Addr} {li ld lx lf : Addr} {ts : List Str} {rs : List Rd} {rows : List (Str × Int)} {fs : List Int}
theorem out_step {v : Value} {p : Nat} {t : Tok} {r : Rd}
   (B : Below A₀ g [] g) (F : Fr g L s.heap m) (X : (hd.heap_39 w.params).In g) (N : News g L s.heap big) (T : Top hd.view_39 LW mean mg mb g) (hk : cs.kind = .function)
   (H : LS big off li ld lx lf ts rs rows fs) (I : Idx rs rows fs) (hp : rs[p]? = some r) (hr : ReadIs big0 big v r) (h0 : ∃ o, (lx, o) ∈ big0)
   (hdp : dp + 1 < recursionLimit) (hu : un + 90 < cLine)
   (ret : ∀ rows' fs' tl h' tk', IdxOn rs (fun i => i ≠ p) rows' fs' → LS tl off li ld lx lf ts rs rows' fs' → Fr g L h' m → News g L h' tl → (∀ q ∈ big, q.1 ≠ lx → q.1 ≠ lf → q ∈ tl) → Q .none { s with heap := h', toks := tk' }) :
   wpAny (model PySem.Challenge.rw_pg0107_01.row.prog w) (ktrTop dp un gd cn cs L a ccd cl []) (call (.ref 78) [.ref lx, .ref lf, .int p t, v]) Q E s := by
  have hp5 : p < 5 := by have := I.len; have := (List.getElem?_eq_some_iff.mp hp).1; omega
  cases r with
  | bad b =>
    obtain ⟨u, rfl⟩ := hr
    obtain ⟨fvs, nf, d1, d2⟩ := H.faults
    refine out_bad (rest := clean big [lf]) B F X (fun q hq => by
      rcases List.mem_cons.mp hq with rfl | hq
      · exact N _ d1
      · exact N _ (mem_clean.mp hq).1) T hk (fun q hq => by simpa using (mem_clean.mp hq).2) d2 (by rw [d2.length]; have := I.flen; omega) I.fsrt ((I.fmem _).mpr ⟨p, b, hp, rfl⟩) hdp hu ?_
    intro fvs' fs' n' h' tk' hi hs hm kF kN
    exact ret rows fs' _ _ _ (I.outBad hp hs hm) (H.setF N (fun q hq => .tail _ hq) (.head _) hi) kF kN fun q hq hx hf => .tail _ (mem_clean.mpr ⟨hq, by simpa using hf⟩)
  | ok k x =>
    obtain ⟨b, c, nb, nc, tk, v2, rfl, hb, hc, lb, lc⟩ := hr
    obtain ⟨o0, h0⟩ := h0
    obtain ⟨xvs, nx, c1, c2⟩ := H.index
    have hr := rows_off N (off := [lx]) (fun b hb => ⟨_, (List.mem_singleton.mp hb) ▸ c1, rows_notRow c2⟩) c2
    refine out_ok (rest := clean big [lx]) B F X (fun q hq => by
      rcases List.mem_cons.mp hq with rfl | hq
      · exact N _ c1
      · exact N _ (mem_clean.mp hq).1) T hk (fun q hq => by simpa using (mem_clean.mp hq).2) hr (by have := I.rlen; have h := c2.length; simp only [List.length_map] at h; omega) I.rowOk I.srt ⟨I.keys k x (List.mem_of_getElem? hp), by dsimp only; omega, by dsimp only; omega⟩ ((I.mem _).mpr ⟨p, x, hp, rfl⟩) (mem_clean.mpr ⟨hb, by simpa using Nat.ne_of_gt (lb _ h0)⟩) (mem_clean.mpr ⟨hc, by simpa using Nat.ne_of_gt (lc _ h0)⟩) hdp hu ?_
    intro vs' rs' n' h' tk' hd hs hm kF kN
    exact ret rs' fs _ _ _ (I.outOk hp hs hm) (H.setX (fun q hq => .tail _ hq) (.head _) (hd.mono fun q hq => .tail _ hq)) kF kN fun q hq hx hf => .tail _ (mem_clean.mpr ⟨hq, by simpa using hx⟩)
theorem in_step {v : Value} {p : Nat} {t : Tok} {r : Rd} {rs0 rs' : List Rd} {S S' : Nat → Prop}
   (B : Below A₀ g [] g) (F : Fr g L s.heap m) (X : (hd.heap_39 w.params).In g) (N : News g L s.heap big) (T : Top hd.view_39 LW mean mg mb g) (hk : cs.kind = .function)
   (H : LS big off li ld lx lf ts rs0 rows fs) (I : IdxOn rs S rows fs) (hl : rs.length = 5) (hkk : ∀ k v, Rd.ok k v ∈ rs → k ∈ keysL) (hp : rs'[p]? = some r) (hp5 : p < 5) (hSp : ¬ S p) (hrk : ∀ k v, r = .ok k v → k ∈ keysL) (hrs : ∀ i, S i → rs'[i]? = rs[i]?) (hS : ∀ i, S' i ↔ S i ∨ i = p) (hr : ReadIs big0 big v r) (h0 : ∃ o, (lx, o) ∈ big0)
   (hdp : dp + 2 < recursionLimit) (hu : un + 100 < cLine)
   (ret : ∀ rows' fs' tl h' tk', IdxOn rs' S' rows' fs' → LS tl off li ld lx lf ts rs0 rows' fs' → Fr g L h' m → News g L h' tl → (∀ q ∈ big, q.1 ≠ lx → q.1 ≠ lf → q ∈ tl) → Q .none { s with heap := h', toks := tk' }) :
   wpAny (model PySem.Challenge.rw_pg0107_01.row.prog w) (ktrTop dp un gd cn cs L a ccd cl []) (call (.ref 85) [.ref lx, .ref lf, .int p t, v]) Q E s := by
  cases r with
  | bad b =>
    obtain ⟨u, rfl⟩ := hr
    obtain ⟨fvs, nf, d1, d2⟩ := H.faults
    refine in_bad (rest := clean big [lf]) B F X (fun q hq => by
      rcases List.mem_cons.mp hq with rfl | hq
      · exact N _ d1
      · exact N _ (mem_clean.mp hq).1) T hk (fun q hq => by simpa using (mem_clean.mp hq).2) d2 (by rw [d2.length]; exact I.flen hl) I.fsrt (I.notFault hSp) hdp hu ?_
    intro fvs' fs' n' h' tk' hi hs hm kF kN
    exact ret rows fs' _ _ _ (I.inBad hrs hp hS hs hm) (H.setF N (fun q hq => .tail _ hq) (.head _) hi) kF kN fun q hq hx hf => .tail _ (mem_clean.mpr ⟨hq, by simpa using hf⟩)
  | ok k x =>
    obtain ⟨b, c, nb, nc, tk, v2, rfl, hb, hc, lb, lc⟩ := hr
    obtain ⟨o0, h0⟩ := h0
    obtain ⟨xvs, nx, c1, c2⟩ := H.index
    have hr := rows_off N (off := [lx]) (fun b hb => ⟨_, (List.mem_singleton.mp hb) ▸ c1, rows_notRow c2⟩) c2
    refine in_ok (rest := clean big [lx]) B F X (fun q hq => by
      rcases List.mem_cons.mp hq with rfl | hq
      · exact N _ c1
      · exact N _ (mem_clean.mp hq).1) T hk (fun q hq => by simpa using (mem_clean.mp hq).2) hr (by have := I.rlen hl hkk; have h := c2.length; simp only [List.length_map] at h; omega) (I.rowOk hl hkk) I.srt ⟨hrk k x rfl, by dsimp only; omega, by dsimp only; omega⟩ (I.notRow hl hkk (hrk k x rfl) hp5 hSp) (mem_clean.mpr ⟨hb, by simpa using Nat.ne_of_gt (lb _ h0)⟩) (mem_clean.mpr ⟨hc, by simpa using Nat.ne_of_gt (lc _ h0)⟩) hdp hu ?_
    intro vs' rs' n' o D h' tk' hD1 hD2 hd hs hm kF kN
    exact ret rs' fs _ _ _ (I.inOk hrs hp hS hs hm) (H.setX (fun q hq => .tail _ (.tail _ hq)) (.head _) (hd.mono fun q hq => .tail _ hq)) kF kN fun q hq hx hf => .tail _ (.tail _ (mem_clean.mpr ⟨hq, by simpa using hx⟩))
theorem told_step {lo hi : Nat} {t1 t2 : Tok}
   (B : Below A₀ g [] g) (F : Fr g L s.heap m) (X : (hd.heap_39 w.params).In g) (N : News g L s.heap big) (T : Top hd.view_39 LW mean mg mb g) (hk : cs.kind = .function)
   (H : LS big off li ld lx lf ts rs rows fs) (I : Idx rs rows fs) (h1 : lo ≤ hi) (h2 : hi ≤ 5)
   (hdp : dp + 6 < recursionLimit) (hu : un + 120 < cLine)
   (ret : ∀ v tl h' tk', Fr g L h' m → News g L h' tl → (∀ p ∈ big, p ∈ tl) → DueIs tl v (cutR rs lo hi) → Q v { s with heap := h', toks := tk' }) :
   wpAny (model PySem.Challenge.rw_pg0107_01.row.prog w) (ktrTop dp un gd cn cs L a ccd cl []) (call (.ref 90) [.ref li, .ref lx, .ref lf, .int lo t1, .int hi t2]) Q E s := by
  obtain ⟨⟨ivs, ni, a1, a2⟩, _, ⟨xvs, nx, c1, c2⟩, ⟨fvs, nf, d1, d2⟩, e1, e2, e3, e4, e5⟩ := H
  refine told_spec B F X N T X T ktsDicts_nil hk a1 a2 e5.map (fun t ht => (e5.mem ht).1) c1 c2 d1 d2 I h1 h2 hdp hu ?_ ?_
  · intro b kg h' tk' t hb KT kF kN _ _ _ _
    refine ret _ _ _ _ (turn_fr KT kF) (turn_news KT kN) (fun _ hp => hp) ?_
    unfold DueIs; rw [hb]; exact ⟨t, rfl⟩
  · intro b vs' tl h' tk' hb kF kN hs hm hd
    refine ret _ _ _ _ kF kN hs ?_
    unfold DueIs; rw [hb]; exact ⟨b, vs', _, rfl, hm, hd⟩
theorem due_step {lo hi : Nat} {t1 t2 : Tok}
   (B : Below A₀ g [] g) (F : Fr g L s.heap m) (X : (hd.heap_39 w.params).In g) (N : News g L s.heap big) (T : Top hd.view_39 LW mean mg mb g) (hk : cs.kind = .function)
   (H : LS big off li ld lx lf ts rs rows fs) (hl : rs.length = 5) (h1 : lo ≤ hi) (h2 : hi ≤ 5)
   (hdp : dp < recursionLimit) (hu : un + 80 < cLine)
   (ret : ∀ v tl h' tk', Fr g L h' m → News g L h' tl → (∀ p ∈ big, p ∈ tl) → DueIs tl v (cutR rs lo hi) → Q v { s with heap := h', toks := tk' }) :
   wpAny (model PySem.Challenge.rw_pg0107_01.row.prog w) (ktrTop dp un gd cn cs L a ccd cl []) (call (.ref 95) [.ref ld, .int lo t1, .int hi t2]) Q E s := by
  obtain ⟨dvs, nd, b1, b2⟩ := H.drawn
  have hdl : dvs.length = 5 := by have := b2.length; simp only [List.length_map] at this; omega
  refine due_spec B F X N T hk b1 (b2.mono fun p hp => (mem_clean.mp hp).1) (by omega) h1 (by omega) (fun k v h => (H.its.memR h).1) hdp hu ?_ ?_
  · intro b h' tk' t hb kF kN
    refine ret _ _ _ _ kF kN (fun _ hp => hp) ?_
    unfold DueIs; rw [hb]; exact ⟨t, rfl⟩
  · intro b vs' tl h' tk' hb kF kN hs hm hd
    refine ret _ _ _ _ kF kN hs ?_
    unfold DueIs; rw [hb]; exact ⟨b, vs', _, rfl, hm, hd⟩
end
theorem key_pick {vs : List Value} {d : Nat} (h : StrsAre vs keysL) (hd : d < 3) : ∃ key t, key ∈ keysL ∧ key.length ≤ 1 ∧ vs[d]? = some (.str key t) := by
  have h3 : ∀ d, d < 3 → (keysL.getD d Str.empty) ∈ keysL ∧ (keysL.getD d Str.empty).length ≤ 1 := by decide +kernel
  obtain ⟨t, ht⟩ := pick8 h (d := d) hd
  exact ⟨_, t, (h3 d hd).1, (h3 d hd).2, ht⟩
theorem sign_pick : ∀ i, i < 5 → Txt.item (Str.ofString "vwxyz") ((i : Nat) : Int) ∈ signsL ∧ (Txt.item (Str.ofString "vwxyz") (i : Int)).length ≤ 1 := by decide +kernel
theorem rd_new {news tl B : List (Addr × Obj)} {off : List Addr} {vo : Value} {d : Dat} (hn : ∀ b ∈ off, ∃ o, (b, o) ∈ news) (hs : ∀ p ∈ tl, p ∈ B) (h : ∃ nu : List (Addr × Obj), (∀ p ∈ nu, p ∈ tl ∧ ∀ q ∈ news, q.1 < p.1) ∧ DatIn nu vo d) : DatIn (clean B off) vo d := by
  obtain ⟨nu, h1, h2⟩ := h
  refine h2.mono fun p hp => mem_clean.mpr ⟨hs _ (h1 p hp).1, fun hq => ?_⟩
  obtain ⟨o, ho⟩ := hn _ hq
  exact Nat.lt_irrefl p.1 ((h1 p hp).2 (p.1, o) ho)
theorem LS.offs {big : List (Addr × Obj)} {off : List Addr} {li ld lx lf : Addr} {ts : List Str} {rs : List Rd} {rows : List (Str × Int)} {fs : List Int} (H : LS big off li ld lx lf ts rs rows fs) (ho : ∀ b ∈ off, ∃ o, (b, o) ∈ big) : ∀ b ∈ lx :: lf :: off, ∃ o, (b, o) ∈ big := by
  intro b hb
  obtain ⟨xvs, nx, c1, _⟩ := H.index
  obtain ⟨fvs, nf, d1, _⟩ := H.faults
  rcases List.mem_cons.mp hb with rfl | hb
  · exact ⟨_, c1⟩
  · rcases List.mem_cons.mp hb with rfl | hb
    · exact ⟨_, d1⟩
    · exact ho b hb
theorem add_at {prog : Program} {w : World} {A : Around} {E : Value → Shared → Prop} {s : Shared} {h₀ : Heap} {L a b : Addr} {m : Str → Option Value} {news : List (Addr × Obj)} {vs ws : List Value} {n k : Nat} {Q : Value → Shared → Prop} (F : Fr h₀ L s.heap m) (N : News h₀ L s.heap news) (ha : (a, listOf vs.toArray n) ∈ news) (hb : (b, listOf ws.toArray k) ∈ news) (hz : vs.length + ws.length ≤ 128)
    (h : ∀ D h', Fr h₀ L h' m → News h₀ L h' ((D, listOf (vs ++ ws).toArray 0) :: news) → (∀ p ∈ news, p.1 < D) → Q (.ref D) { s with heap := h' }) : wpAny (model prog w) A (binaryOp .Add (.ref a) (.ref b)) Q E s :=
  kmk_add_lit F N (News.isList N ha) (News.isList N hb) (by simp) h (by rw [sizeLine_eq]; simp; omega)
theorem strs_append {vs ws : List Value} {ts us : List Str} (h : StrsAre vs ts) (k : StrsAre ws us) : StrsAre (vs ++ ws) (ts ++ us) := by
  induction h with
  | nil => exact k
  | cons y t _ ih => exact .cons y t ih
theorem firstBad_snoc {rs : List Rd} {k v : Str} (h : firstBad rs = none) : firstBad (rs ++ [.ok k v]) = none := by
  rw [firstBad_append, h]; rfl
theorem item0_ok {key g : Str} : (itemOf key g 0).2 = .ok key g := rfl
theorem not_row {o : Obj} {c : String} (h : o.cls = .type c) (hc : c ≠ "list") : ∀ k p t u n, o ≠ rowObj k p t u n := by
  intro k p t u n e
  rw [e] at h
  injection h with h
  exact hc h.symm
def places : List Nat := [3, 0, 4, 1, 2]
theorem place_pick {t0 t1 t2 t3 t4 : Tok} {i : Nat} {a : Itm} {v : Value} {h : Heap} (ha : (([.int 3 t0, .int 0 t1, .int 4 t2, .int 1 t3, .int 2 t4] : List Value).map Itm.val)[i]? = some a) (hv : a.Is v h) : ∃ (p : Nat) (t : Tok), places[i]? = some p ∧ v = .int (p : Int) t := by
  match i, ha with
  | 0, ha => cases ha; exact ⟨3, t0, rfl, hv⟩
  | 1, ha => cases ha; exact ⟨0, t1, rfl, hv⟩
  | 2, ha => cases ha; exact ⟨4, t2, rfl, hv⟩
  | 3, ha => cases ha; exact ⟨1, t3, rfl, hv⟩
  | 4, ha => cases ha; exact ⟨2, t4, rfl, hv⟩
  | n + 5, ha => simp at ha
theorem place_facts {i p : Nat} (h : places[i]? = some p) : p < 5 ∧ p ∉ places.take i ∧ ∀ j, j ∈ places.take (i + 1) ↔ j ∈ places.take i ∨ j = p := by
  refine ⟨?_, ?_, fun j => ?_⟩
  · have h1 := List.mem_of_getElem? h
    simp [places] at h1; omega
  · match i, h with
    | 0, h => simp
    | 1, h => cases h; decide
    | 2, h => cases h; decide
    | 3, h => cases h; decide
    | 4, h => cases h; decide
    | n + 5, h => simp [places] at h
  · rw [List.take_succ, h]; simp
theorem fin_news {g h : Heap} {L I : Addr} {oI : Obj} {B : List (Addr × Obj)} (N : News g L h B) (hI : (I, oI) ∈ B) : News g L h ([(I, oI)] ++ clean B [I]) := fun q hq => by
  rcases List.mem_append.mp hq with h | h
  · rw [List.mem_singleton.mp h]; exact N _ hI
  · exact N _ (mem_clean.mp h).1
theorem fin_off {I : Addr} {oI : Obj} {B : List (Addr × Obj)} : ∀ p ∈ clean B [I], ∀ q ∈ [(I, oI)], p.1 ≠ q.1 := fun q hq q' hq' => by
  rw [List.mem_singleton.mp hq']
  exact fun e => (mem_clean.mp hq).2 (by rw [e]; exact .head _)
theorem ints_app {vs : List Value} {ns : List Int} (h : IntsAre vs ns) {a b c d : Int} (t0 t1 t2 t3 : Tok) : IntsAre (vs ++ [.int a t0, .int b t1, .int c t2, .int d t3]) (ns ++ [a, b, c, d]) := ints_append h (.cons _ _ (.cons _ _ (.cons _ _ (.cons _ _ .nil))))
theorem letters : ∀ c ∈ (Str.ofString "abcdefghi").cps.toList, (⟨#[c]⟩ : Str) ∈ signsL ∧ (⟨#[c]⟩ : Str).length = 1 := by decide +kernel
theorem ints_in {vs : List Value} {ns : List Int} (h : IntsAre vs ns) {v : Value} (hv : v ∈ vs) : ∃ x t, v = .int x t := by
  induction h with
  | nil => cases hv
  | cons n t _ ih =>
    rcases List.mem_cons.mp hv with rfl | hv
    · exact ⟨_, _, rfl⟩
    · exact ih hv
theorem zip_pick {ys : List Value} {ns : List Int} {i : Nat} {a : Itm} {v : Value} {h : Heap} (ha : (zipS (Str.ofString "abcdefghi").cps.toList ys)[i]? = some a) (hv : a.Is v h) (hy : IntsAre ys ns) : ∃ sg T t x tx, sg ∈ signsL ∧ sg.length = 1 ∧ v = .ref T ∧ IsTup h T #[.str sg t, .int x tx] := by
  unfold zipS at ha
  rw [List.getElem?_map] at ha
  cases e : (List.zip (Str.ofString "abcdefghi").cps.toList ys)[i]? with
  | none => rw [e] at ha; cases ha
  | some p =>
    rw [e] at ha
    have ea := (Option.some.inj ha).symm
    subst ea
    obtain ⟨T, t, rfl, hT⟩ := hv
    have hm := List.mem_of_getElem? e
    obtain ⟨x, tx, ex⟩ := ints_in hy (List.of_mem_zip hm).2
    obtain ⟨h1, h2⟩ := letters _ (List.of_mem_zip hm).1
    exact ⟨_, T, t, x, tx, h1, h2, rfl, ex ▸ hT⟩
theorem strs_take_drop {vs : List Value} {ts : List Str} (h : StrsAre vs ts) : ∀ n, StrsAre (vs.take n) (ts.take n) ∧ StrsAre (vs.drop n) (ts.drop n) := by
  induction h with
  | nil => intro n; simp; exact .nil
  | cons y t h ih =>
    intro n
    cases n with
    | zero => exact ⟨.nil, .cons y t h⟩
    | succ n => exact ⟨.cons y t (ih n).1, (ih n).2⟩
theorem strs_put {vs : List Value} {ts : List Str} (h : StrsAre vs ts) (p : Nat) (y : Str) (t : Tok) : StrsAre (vs.take p ++ [.str y t] ++ vs.drop (p + 1)) (ts.take p ++ [y] ++ ts.drop (p + 1)) :=
  strs_append (strs_append (strs_take_drop h p).1 (.cons _ _ .nil)) (strs_take_drop h (p + 1)).2
theorem dat_put {nw : List (Addr × Obj)} {vs : List Value} {rs : List Rd} (h : DatAll nw vs (rs.map rdDat)) (p : Nat) {v : Value} {r : Rd} (hv : DatIn nw v (rdDat r)) : DatAll nw (vs.take p ++ [v] ++ vs.drop (p + 1)) ((rs.take p ++ [r] ++ rs.drop (p + 1)).map rdDat) := by
  have h1 := ((dat_take_drop h p).1.append (.one hv)).append (dat_take_drop h (p + 1)).2
  simpa [List.map_take, List.map_drop] using h1
def PairAt (nw : List (Addr × Obj)) (v : Value) : Prop := ∃ (a : Addr) (lo hi : Nat) (t1 t2 : Tok) (n : Nat), v = .ref a ∧ (a, listOf #[.int (lo : Int) t1, .int (hi : Int) t2] n) ∈ nw ∧ lo ≤ hi ∧ hi ≤ 5
theorem sort2 {v : List Value} {n : List Int} {A B : Int} (h : IntsAre v n) (he : n.length = 2) (hp : n.Perm [A, B]) (ho : n.Pairwise (· ≤ ·)) (hA : 0 ≤ A ∧ A ≤ 5) (hB : 0 ≤ B ∧ B ≤ 5) : ∃ (lo hi : Nat) (t1 t2 : Tok), v = [.int (lo : Int) t1, .int (hi : Int) t2] ∧ lo ≤ hi ∧ hi ≤ 5 := by
  match n, he with
  | [a, b], _ =>
    have ha : a ∈ [A, B] := hp.mem_iff.mp (.head _)
    have hb : b ∈ [A, B] := hp.mem_iff.mp (.tail _ (.head _))
    have hab : a ≤ b := (List.pairwise_cons.mp ho).1 b (.head _)
    have ra : 0 ≤ a ∧ a ≤ 5 := by
      simp only [List.mem_cons, List.not_mem_nil, or_false] at ha
      rcases ha with rfl | rfl <;> assumption
    have rb : 0 ≤ b ∧ b ≤ 5 := by
      simp only [List.mem_cons, List.not_mem_nil, or_false] at hb
      rcases hb with rfl | rfl <;> assumption
    cases h with
    | cons _ t1 h =>
      cases h with
      | cons _ t2 h =>
        cases h
        refine ⟨a.toNat, b.toNat, t1, t2, ?_, by omega, by omega⟩
        rw [Int.toNat_of_nonneg ra.1, Int.toNat_of_nonneg rb.1]
theorem pair_pick {Bk : List (Addr × Obj)} {D l : Addr} {lo hi c : Nat} {t1 t2 t3 t4 : Tok} {i : Nat} {a : Itm} {v : Value} {h : Heap} (ha : (([.ref D, .ref l] : List Value).map Itm.val)[i]? = some a) (hv : a.Is v h) (h1 : (D, listOf (List.toArray [.int (lo : Int) t1, .int (hi : Int) t2]) c) ∈ Bk) (h2 : (l, listOf #[.int 0 t3, .int 5 t4] 0) ∈ Bk) (hlo : lo ≤ hi) (hhi : hi ≤ 5) : PairAt Bk v := by
  match i, ha with
  | 0, ha => cases ha; exact ⟨D, lo, hi, t1, t2, c, hv, h1, hlo, hhi⟩
  | 1, ha => cases ha; exact ⟨l, 0, 5, t3, t4, 0, hv, h2, by omega, by omega⟩
  | n + 2, ha => simp at ha
theorem cut_map {ts : List Str} {rs : List Rd} (H : Its ts rs) (lo hi : Nat) : ((ts.drop lo).take (hi - lo)).map parse1 = (cutR rs lo hi).map some := by
  unfold cutR
  rw [List.map_take, List.map_drop, List.map_take, List.map_drop, H.map]
end Mine
end
section
open PySem PySem.W PyProof.Rows PySem.Calls PySem.Spec PyProof.V PyProof.Rows.LCg
set_option Elab.async false
set_option maxRecDepth 100000
set_option maxHeartbeats 2000000
set_option linter.unusedVariables false
namespace Mine
section
variable {prog : Program} {w : World} {A : Around} {E : Value → Shared → Prop} {s : Shared} {h₀ : Heap} {L : Addr} {m : Str → Option Value} {env : Env}
def EnP (vs : List Value) (i : Nat) (v : Value) (h : Heap) : Prop := ∃ T t x, v = .ref T ∧ vs[i]? = some x ∧ IsTup h T #[.int (i : Nat) t, x]
theorem src_enum {elts : List PySem.Expr} {kk : Nat} {tp : Pos} {ax : Addr} {vs : List Value} {k : Nat} {nw : List (Addr × Obj)} (hh : A.handled = none) (F : Fr h₀ L s.heap m) (N : News h₀ L s.heap nw) (hm : (ax, listOf vs.toArray k) ∈ nw) {Q : Value → Shared → Prop}
    (h : ∀ I it h' Md St, SrcOk prog w A h₀ L m (.Tuple elts kk tp) vs.length (EnP vs) nw (.ref I) { s with heap := h' } I [I, it, ax] [I, it] Md St → Q (.ref I) { s with heap := h' }) : wpAny (model prog w) A (call (.type "enumerate") [.ref ax]) (fun xv s₁ => wpAny (model prog w) A (pyIter xv) Q E s₁) E s := by
  have hax := N _ hm
  have hl : s.heap.IsList ax vs.toArray := News.isList N hm
  have hlt : ax < s.heap.objs.size := Heap.lt_size hax.1
  have hLs : L < s.heap.objs.size := F.ns.lt
  refine call_enumerate_list hl fun h' hE hI hsz hk => ?_
  refine wpAny_pyIter_enum hE ?_
  have W := (KTurns.ofWalksU (elts := elts) (k := kk) (pos := tp) (WalksT.enumerate (prog := prog) (w := w) hh (s.heap.objs.size + 1) s.heap.objs.size ax (Nat.succ_ne_self _) (ktu_ne 1 hlt) (Nat.ne_of_lt hlt) vs.toArray).toU)
  have eP : ∀ i v h, (∃ T vals, v = .ref T ∧ (∃ t x, vs.toArray[i]? = some x ∧ vals = #[.int (i : Nat) t, x]) ∧ IsTup h T vals) → EnP vs i v h := by
    rintro i v h ⟨T, vals, rfl, ⟨t, x, hx, rfl⟩, hT⟩
    exact ⟨T, t, x, rfl, by simpa using hx, hT⟩
  refine h (s.heap.objs.size + 1) s.heap.objs.size h' _ _ ⟨rfl, ⟨W.sub, W.frame, W.item, fun i v s Q E hm hQ => W.go i v s Q E hm fun h' p => hQ h' (eP i v h' p), W.done⟩, fun s Q E st q => wpAny_pyIter_enum st.1.choose_spec q, fun i h st b hb => ?_, fun b hb => ?_, fun hL => ?_, fun b hb => ?_, fun p hp hI => ?_, ?_, F.keeps hk, N.grown hk⟩
  · obtain ⟨⟨old, he⟩, ⟨oi, hoi, hic, _⟩, _⟩ := st
    have he' : ∃ oe : Obj, h.get? (s.heap.objs.size + 1) = some oe := ⟨_, he⟩
    have hb' : b = s.heap.objs.size + 1 ∨ b = s.heap.objs.size := by simpa using hb
    rcases hb' with rfl | rfl
    · exact he'
    · exact ⟨_, hoi⟩
  · show b < h'.objs.size
    rw [hsz]
    have hb' : b = s.heap.objs.size + 1 ∨ b = s.heap.objs.size ∨ b = ax := by simpa using hb
    rcases hb' with rfl | rfl | rfl
    · exact Nat.lt_succ_self _
    · exact Nat.lt_succ_of_lt (Nat.lt_succ_self _)
    · exact Nat.lt_succ_of_lt (Nat.lt_succ_of_lt hlt)
  · have hb' : L = s.heap.objs.size + 1 ∨ L = s.heap.objs.size ∨ L = ax := by simpa using hL
    rcases hb' with e | e | e
    · exact ktu_ne 1 hLs e
    · exact Nat.ne_of_lt hLs e
    · exact hax.2.1 e.symm
  · have hb' : b = s.heap.objs.size + 1 ∨ b = s.heap.objs.size := by simpa using hb
    rcases hb' with rfl | rfl
    · exact ktu_new F (Nat.le_add_right _ _)
    · exact ktu_new F (Nat.le_refl _)
  · have hb' : p.1 = s.heap.objs.size + 1 ∨ p.1 = s.heap.objs.size := by simpa using hI
    have hlp := Heap.lt_size (N p hp).1
    rcases hb' with e | e
    · exact ktu_ne 1 hlp e
    · exact Nat.ne_of_lt hlp e
  · exact ⟨⟨.none, hE⟩, hI, hl.at fun o e => hk ax o e⟩
theorem lc_enum {elt : PySem.Expr} {elts : List PySem.Expr} {kk : Nat} {tp : Pos} {tst : Option PySem.Expr} {ce : Addr → Env} {cs : Addr → List Addr} {K : Shared → Addr → List (Addr × Obj) → Prop} {ax : Addr} {vs : List Value} {k : Nat} {nw : List (Addr × Obj)}
    (hh : A.handled = none) (F : Fr h₀ L s.heap m) (N : News h₀ L s.heap nw) (hm : (ax, listOf vs.toArray k) ∈ nw) (hsz : vs.length ≤ sizeLine)
    (G : Addr → Nat → (Str → Option Value) → Heap → Prop) (J : Nat → List Value → List (Addr × Obj) → Prop) (hJ0 : J 0 [] nw)
    (hB : ∀ C, Binds prog w A h₀ L (.Tuple elts kk tp) (ce C) (cs C) (fun i v h => EnP vs i v h ∧ ∃ ys nw, J i ys nw ∧ News h₀ L h nw) (G C))
    (step : ∀ h₂ C D i ys nw' h tk m₂ oC led (E' : Value → Shared → Prop), i < vs.length → J i ys nw' → G C i m₂ h → CGround h₀ L m ys nw' C D (cs C) oC m₂ led h → CTurn prog w A h₀ L m tst elt { s with heap := h₂ } J i ys nw' (ce C) led E' { s with heap := h, toks := tk })
    (fin : ∀ h₂ D ys nw', J vs.length ys nw' → (∀ p ∈ nw', p.1 ≠ D) → (∀ p ∈ nw, p.1 < D) → K { s with heap := h₂ } D ((D, lst ys) :: nw')) :
    wpAny (model prog w) A (call (.type "enumerate") [.ref ax]) (fun xv s₁ => wpAny (model prog w) A (pyIter xv) (fun it s₂ => LcGo prog w A h₀ L m elt (.Tuple elts kk tp) tst ce cs K it s₂) E s₁) E s :=
  src_enum (elts := elts) (kk := kk) (tp := tp) hh F N hm fun I it h' Md St S => ⟨_, _, _, I, _, _, Md, St, G, J, S, hsz, hJ0, hB, step h', fin h'⟩
end
end Mine
end
section
open PySem PySem.W PyProof.Rows PySem.Calls PySem.Spec PyProof.V
set_option Elab.async false
set_option maxRecDepth 100000
set_option maxHeartbeats 2000000
set_option linter.unusedVariables false
namespace Mine
def rowAt (rs : List Rd) (j : Nat) : Option (Str × Int) := match rs[j]? with
  | some (.ok k _) => some (k, (j : Int))
  | _ => none
def faultAt (rs : List Rd) (j : Nat) : Option Int := match rs[j]? with
  | some (.bad _) => some (j : Int)
  | _ => none
def rowsTo (rs : List Rd) (i : Nat) : List (Str × Int) := (List.range i).filterMap (rowAt rs)
def faultsTo (rs : List Rd) (i : Nat) : List Int := (List.range i).filterMap (faultAt rs)
theorem rowsTo_ok {rs : List Rd} {i : Nat} {k v : Str} (h : rs[i]? = some (.ok k v)) : rowsTo rs (i + 1) = rowsTo rs i ++ [(k, (i : Int))] := by
  unfold rowsTo; rw [List.range_succ, List.filterMap_append]; simp [rowAt, h]
theorem rowsTo_bad {rs : List Rd} {i : Nat} {b : Bool} (h : rs[i]? = some (.bad b)) : rowsTo rs (i + 1) = rowsTo rs i := by
  unfold rowsTo; rw [List.range_succ, List.filterMap_append]; simp [rowAt, h]
theorem faultsTo_ok {rs : List Rd} {i : Nat} {k v : Str} (h : rs[i]? = some (.ok k v)) : faultsTo rs (i + 1) = faultsTo rs i := by
  unfold faultsTo; rw [List.range_succ, List.filterMap_append]; simp [faultAt, h]
theorem faultsTo_bad {rs : List Rd} {i : Nat} {b : Bool} (h : rs[i]? = some (.bad b)) : faultsTo rs (i + 1) = faultsTo rs i ++ [(i : Int)] := by
  unfold faultsTo; rw [List.range_succ, List.filterMap_append]; simp [faultAt, h]
theorem rowAt_iff {rs : List Rd} {j : Nat} {x : Str × Int} : rowAt rs j = some x ↔ ∃ v, rs[j]? = some (.ok x.1 v) ∧ x.2 = (j : Int) := by
  unfold rowAt
  cases h : rs[j]? with
  | none => simp
  | some r =>
    cases r with
    | bad b => simp
    | ok k v =>
      simp only [Option.some.injEq, Rd.ok.injEq]
      constructor
      · rintro rfl; exact ⟨v, ⟨rfl, rfl⟩, rfl⟩
      · rintro ⟨v', ⟨h1, _⟩, h2⟩; exact Prod.ext h1 h2.symm
theorem faultAt_iff {rs : List Rd} {j : Nat} {y : Int} : faultAt rs j = some y ↔ ∃ b, rs[j]? = some (.bad b) ∧ y = (j : Int) := by
  unfold faultAt
  cases h : rs[j]? with
  | none => simp
  | some r =>
    cases r with
    | bad b => simp [eq_comm]
    | ok k v => simp
theorem rowsTo_mem {rs : List Rd} {i : Nat} {x : Str × Int} : x ∈ rowsTo rs i ↔ ∃ (j : Nat) (v : Str), j < i ∧ rs[j]? = some (.ok x.1 v) ∧ x.2 = (j : Int) := by
  unfold rowsTo
  rw [List.mem_filterMap]
  constructor
  · rintro ⟨j, hj, h⟩
    obtain ⟨v, h1, h2⟩ := rowAt_iff.mp h
    exact ⟨j, v, List.mem_range.mp hj, h1, h2⟩
  · rintro ⟨j, v, hj, h1, h2⟩
    exact ⟨j, List.mem_range.mpr hj, rowAt_iff.mpr ⟨v, h1, h2⟩⟩
theorem faultsTo_mem {rs : List Rd} {i : Nat} {y : Int} : y ∈ faultsTo rs i ↔ ∃ (j : Nat) (b : Bool), j < i ∧ rs[j]? = some (.bad b) ∧ y = (j : Int) := by
  unfold faultsTo
  rw [List.mem_filterMap]
  constructor
  · rintro ⟨j, hj, h⟩
    obtain ⟨v, h1, h2⟩ := faultAt_iff.mp h
    exact ⟨j, v, List.mem_range.mp hj, h1, h2⟩
  · rintro ⟨j, v, hj, h1, h2⟩
    exact ⟨j, List.mem_range.mpr hj, faultAt_iff.mpr ⟨v, h1, h2⟩⟩
theorem faultsTo_sorted (rs : List Rd) : ∀ i, Sorted (faultsTo rs i) := by
  intro i
  induction i with
  | zero => exact .nil
  | succ i ih =>
    unfold faultsTo
    rw [List.range_succ, List.filterMap_append]
    refine List.pairwise_append.mpr ⟨ih, ?_, fun a ha b hb => ?_⟩
    · simp only [List.filterMap_cons, List.filterMap_nil]
      cases faultAt rs i with
      | none => exact .nil
      | some y => exact List.pairwise_singleton ..
    · obtain ⟨j, _, hj, _, e⟩ := faultsTo_mem.mp ha
      obtain ⟨k, hk, e2⟩ := List.mem_filterMap.mp hb
      obtain ⟨_, _, e3⟩ := faultAt_iff.mp e2
      rw [List.mem_singleton.mp hk] at e3
      omega
theorem rowsTo_ok_all {rs : List Rd} (hl : rs.length = 5) (hk : ∀ k v, Rd.ok k v ∈ rs → k ∈ keysL) {i : Nat} : ∀ r ∈ rowsTo rs i, RowOk r := by
  intro r hr
  obtain ⟨j, v, _, h1, h2⟩ := rowsTo_mem.mp hr
  have hi := (List.getElem?_eq_some_iff.mp h1).1
  exact ⟨hk _ v (List.mem_of_getElem? h1), by omega, by omega⟩
theorem rowsTo_nodup {rs : List Rd} (hl : rs.length = 5) (hk : ∀ k v, Rd.ok k v ∈ rs → k ∈ keysL) : ∀ i, ((rowsTo rs i).map code).Nodup := by
  intro i
  induction i with
  | zero => exact .nil
  | succ i ih =>
    have e : rowsTo rs (i + 1) = rowsTo rs i ++ (rowAt rs i).toList := by
      unfold rowsTo; rw [List.range_succ, List.filterMap_append]
      simp only [List.filterMap_cons, List.filterMap_nil]
      cases rowAt rs i <;> rfl
    have ha := @rowsTo_ok_all rs hl hk (i + 1)
    rw [e] at ha ⊢
    cases h : rowAt rs i with
    | none => simpa using ih
    | some x =>
      rw [h] at ha
      simp only [Option.toList_some] at ha ⊢
      rw [List.map_append, List.nodup_append]
      refine ⟨ih, by simp, fun a h1 b h2 e => ?_⟩
      obtain ⟨r, hr, e1⟩ := List.mem_map.mp h1
      rw [List.map_singleton, List.mem_singleton] at h2
      have e3 := code_inj (ha r (List.mem_append_left _ hr)) (ha x (List.mem_append_right _ (.head _))) (e1.trans (e.trans h2))
      obtain ⟨j, v, hj, _, e4⟩ := rowsTo_mem.mp hr
      obtain ⟨_, _, e5⟩ := rowAt_iff.mp h
      rw [e3] at e4
      omega
theorem rowsTo_len (rs : List Rd) (i : Nat) : (rowsTo rs i).length ≤ i := by
  have := List.length_filterMap_le (rowAt rs) (List.range i)
  rwa [List.length_range] at this
theorem rows_same {rs : List Rd} {rows rows2 : List (Str × Int)} {fs : List Int} (I : Idx rs rows fs) (hs : Sorted (rows2.map code)) (hm : ∀ x, x ∈ rows2 ↔ x ∈ rowsTo rs 5) : rows = rows2 := by
  have hmem : ∀ x, x ∈ rows ↔ x ∈ rows2 := fun x => by
    rw [hm, I.mem, rowsTo_mem]
    constructor
    · rintro ⟨j, v, h1, h2⟩
      exact ⟨j, v, by have := (List.getElem?_eq_some_iff.mp h1).1; have := I.len; omega, h1, h2⟩
    · rintro ⟨j, v, _, h1, h2⟩
      exact ⟨j, v, h1, h2⟩
  have hok2 : ∀ r ∈ rows2, RowOk r := fun r hr => I.rowOk r ((hmem r).mpr hr)
  refine map_inj_on (f := code) (sorted_ext I.srt hs fun z => ?_) fun a ha b hb e => code_inj (I.rowOk a ha) (hok2 b hb) e
  rw [List.mem_map, List.mem_map]
  exact ⟨fun ⟨a, h1, h2⟩ => ⟨a, (hmem a).mp h1, h2⟩, fun ⟨a, h1, h2⟩ => ⟨a, (hmem a).mpr h1, h2⟩⟩
theorem faults_same {rs : List Rd} {rows : List (Str × Int)} {fs : List Int} (I : Idx rs rows fs) : fs = faultsTo rs 5 := by
  refine sorted_ext I.fsrt (faultsTo_sorted rs 5) fun z => ?_
  rw [I.fmem, faultsTo_mem]
  constructor
  · rintro ⟨j, v, h1, h2⟩
    exact ⟨j, v, by have := (List.getElem?_eq_some_iff.mp h1).1; have := I.len; omega, h1, h2⟩
  · rintro ⟨j, v, _, h1, h2⟩
    exact ⟨j, v, h1, h2⟩
theorem rows_kqd {rows : List (Str × Int)} (h : ∀ r ∈ rows, RowOk r) : ∀ d ∈ rows.map rowDat, kqdOk 8 d = true := by
  intro d hd
  obtain ⟨r, hr, rfl⟩ := List.mem_map.mp hd
  have h1 : PyData.strOk r.1 = true := by
    have : ∀ k ∈ keysL, PyData.strOk k = true := by decide +kernel
    exact this _ (h r hr).1
  simp [kqdOk, h1]
theorem ints_kqd (fs : List Int) : ∀ d ∈ fs.map Dat.int, kqdOk 8 d = true := by
  intro d hd
  obtain ⟨r, hr, rfl⟩ := List.mem_map.mp hd
  rfl
theorem ints_dat {vs : List Value} {fs : List Int} (h : IntsAre vs fs) : DatAll [] vs (fs.map Dat.int) := by
  induction h with
  | nil => exact .nil
  | cons n t _ ih => exact .cons (.int _ _) ih
theorem dec_true {p : Prop} (i : Decidable p) (h : p) : @decide p i = true := by
  cases i with
  | isTrue _ => rfl
  | isFalse q => exact absurd h q
end Mine
end
section
open PySem PySem.W PyProof.Rows PySem.Calls PySem.Spec PyProof.V PyProof.Rows.LCg
set_option Elab.async false
set_option maxRecDepth 100000
set_option maxHeartbeats 8000000
set_option pp.deepTerms false
set_option pp.proofs false
namespace Mine
local macro_rules | `(tactic| k_mem) => `(tactic| first | assumption | (refine List.mem_cons_of_mem _ ?_; k_mem))
local macro_rules | `(tactic| walk_at $k:str) => if k.getString ∈ ["call ref", "pyIter ref", "exec For Name Call cons nil", "exec For Name List cons nil", "exec For Tuple Call cons nil", "exec For Tuple List cons nil", "exec Assign cons ListComp", "subscriptTail", "binaryOp Add ref ref", "eval ListComp", "compareOp NotEq", "compareOp Eq", "call type:zip", "call type:enumerate"] then `(tactic| refine wait_at ?_) else if k.getString = "UnrEndW" then `(tactic| fail) else Lean.Macro.throwUnsupported
/-- the end conditions are kept as names: they are long, and every step would write them anew -/
theorem open_end {M : Model} {A : Around} {b : List Stmt} {env : Env} {Q : Flow → Shared → Prop} {E : Value → Shared → Prop} {s : Shared} (p : PassesOwn M A env E)
    (h : ∀ Q' E', Q' = Q → E' = E → PassesOwn M A env E' → wpAny M A (execs b env) Q' E' s) : wpAny M A (execs b env) Q E s := h Q E rfl rfl p
theorem law_holds : PySem.Challenge.rw_pg0107_01.Holds := by
  w_top off
  refine hd ?_
  k_go0
  (all_goals try k_fold)
  rename_i sl svs wA hSL ra w1 r0 hSI hr hc1 hc2 K0 hD h₁ F0 N0
  have hsl : svs.length ≤ 63 := by rw [hSI.length]; omega
  clear ra w1 r0 hr hc1 hc2
  have K1 := (fun (g : Heap) (h : g.IsList sl svs.toArray) (k : Below callerA g [] g) => k) _ hSL K0
  refine open_end (by passes_own) ?_
  intro qk ek eqk eek hpo
  k_steps
  refine Wait.mk ?_
  rename Fr _ _ _ _ => lF
  k_dflt (refine For_turns lF ?_ (by intro _; rfl) hpo)
  k_steps
  rename Fr _ _ _ _ => lF
  rename News _ _ _ _ => lN
  rename IsRange _ _ _ _ _ _ _ _ => hR
  rename Frag.In _ _ => X'
  rename Top _ _ _ _ _ _ => T'
  refine Wait.mk ?_
  k_dflt (refine iter_range5 rfl hR lF lN ?_)
  intro I hI
  refine items_ind (fun i m₁ nw => ∃ li ld lx lf ts rs u, m₁ = lM li ld lx lf sl u ∧ LS nw [] li ld lx lf ts rs [] [] ∧ ts.length = i ∧ firstBad rs = none ∧ ∀ p ∈ nw, p.1 ∉ [I]) _ ?_ ?_ ?_ trivial
  · rintro i a v m₁ nw h tk ha hav ⟨li, ld, lx, lf, ts, rs, u, rfl, H, hi, hb, hof⟩ hkp F oI hoI N
    clear lF lN hI
    have hi5 : i < 5 := by simpa using (List.getElem?_eq_some_iff.mp ha).1
    have ea : a = .tok fun t => .int (i : Int) t := by
      rw [List.getElem?_map, List.getElem?_range hi5] at ha
      exact (Option.some.inj ha).symm
    subst ea
    obtain ⟨t0, rfl⟩ := hav
    obtain ⟨big, ebig, N1⟩ : ∃ b, b = (I, oI) :: nw ∧ News _ _ h b := ⟨_, rfl, N⟩
    have hsub : ∀ p ∈ nw, p ∈ big := fun p hp => ebig ▸ .tail _ hp
    have hIm : (I, oI) ∈ big := ebig ▸ .head _
    have H1 : LS big [I] li ld lx lf ts rs [] [] := H.start (a := [I]) hsub hof
    clear N H hof ha ebig hsub
    unfold lM at F
    refine name_post ?_
    intro qP eqP
    dsimp only
    k_steps
    refine Wait.mk ?_
    rename Fr _ _ _ _ => lF
    rename News _ _ _ _ => lN
    have hm3 : (i : Int).fmod 3 = (i : Int) % 3 := Int.fmod_eq_emod_of_nonneg _ (by decide)
    obtain ⟨key, tq, hk1, hk2, hq⟩ := key_pick (vs := [_, _, _]) (d := ((i : Int).fmod 3).toNat) (.cons _ _ (.cons _ _ (.cons _ _ .nil))) (by omega)
    k_dflt (refine item_at lN (.head _) (by omega) (by omega) hq ?_ (by with_unfolding_all rfl))
    clear hq hm3
    k_steps
    refine Wait.mk ?_
    have hsg := sign_pick i hi5
    k_dflt (refine KXi.item (n := 5) rfl (by omega) (by omega) (by omega) ?_ (by with_unfolding_all rfl) (by intro _; with_unfolding_all rfl))
    intro hsl
    obtain ⟨sg, esg⟩ : ∃ x, x = Txt.item (Str.ofString "vwxyz") (i : Int) := ⟨_, rfl⟩
    rw [← esg] at hsg hsl
    k_dflt (rw [← esg])
    clear esg
    k_steps
    refine Wait.mk ?_
    rename Fr _ _ _ _ => lF
    rename News _ _ _ _ => lN
    k_dflt (refine item_spec (d := 0) K1 lF X' lN T' rfl hk2 hsg.2 (by decide) (by decide) (by decide) ?_)
    intro T nT vi vo tl h' tk' lF lN hs ho hT di do'
    obtain ⟨ti, rfl⟩ : ∃ ti, vi = .str _ ti := by cases di; exact ⟨_, rfl⟩
    clear di
    k_steps
    refine Wait.mk ?_
    rename Fr _ _ _ _ => lF
    rename News _ _ _ _ => lN
    obtain ⟨ivs, ni, a1, a2⟩ := H1.items
    obtain ⟨dvs, nd, b1, b2⟩ := H1.drawn
    have hil : ivs.length = i := a2.len_eq.trans hi
    have hdl : dvs.length = i := by have h1 := b2.length; have h2 := H1.its.len; simp only [List.length_map] at h1; omega
    have a3 := hs _ (.tail _ a1)
    have b3 := hs _ (.tail _ b1)
    have hnew : ∀ q ∈ big, q ∈ tl := fun q hq => hs _ (.tail _ hq)
    have hoffs := H1.offs (fun b hb => ⟨oI, by rw [List.mem_singleton.mp hb]; exact hIm⟩)
    have hv := rd_new (B := tl) (off := lx :: lf :: [I]) (fun b hb => (hoffs b hb).imp fun o h => List.mem_cons_of_mem _ h) (fun _ hp => hp) do'
    clear do' ho hs
    k_dflt (refine add_at lF lN (.tail _ a3) (.head _) (by simp; omega) ?_)
    intro D1 h1 lF lN lt1
    k_steps
    refine Wait.mk ?_
    rename Fr _ _ _ _ => lF
    rename News _ _ _ _ => lN
    k_dflt (refine add_at lF lN (by k_mem) (.head _) (by simp; omega) ?_)
    intro D2 h2 lF lN lt2
    k_steps
    subst eqP
    k_steps
    rename Fr _ _ _ _ => lF
    rename News _ _ _ _ => lN
    obtain ⟨B, eB, lN2⟩ : ∃ B, B = _ ∧ News _ _ _ B := ⟨_, rfl, lN⟩
    have sB : ∀ q ∈ tl, q ∈ B := fun q hq => by rw [eB]; simp [hq]
    have mB1 : (D1, listOf (List.toArray (ivs ++ [Value.str (itemOf key sg 0).1 ti])) 0) ∈ B := by rw [eB]; exact .tail _ (.tail _ (.tail _ (.head _)))
    have mB2 : (D2, listOf (List.toArray (dvs ++ [vo])) 0) ∈ B := by rw [eB]; exact .tail _ (.head _)
    have hI1 : ∀ b ∈ [I], ∃ o, (b, o) ∈ big := fun b hb => ⟨oI, by rw [List.mem_singleton.mp hb]; exact hIm⟩
    have oD1 := H1.new hI1 (D := D1) (fun p hp => lt1 _ (.tail _ (hnew p hp)))
    have oD2 := H1.new hI1 (D := D2) (fun p hp => lt2 _ (.tail _ (.tail _ (.tail _ (hnew p hp)))))
    have sB2 : ∀ q ∈ big, q ∈ B := fun q hq => sB _ (hnew q hq)
    have H2 := (H1.grow sB2).put mB1 (strs_append a2 (.cons _ _ .nil)) mB2 (rs' := rs ++ [(itemOf key sg 0).2]) (by rw [List.map_append]; exact (b2.mono (clean_mono sB2)).append (.one (hv.mono (clean_mono sB)))) oD1 oD2 (H1.its.snoc (it_of hk1 hsg.1 (by decide)))
    refine ⟨_, _, _, clean B [I], rfl, lF, fin_news lN2 (sB2 _ hIm), fin_off, trivial, D1, D2, lx, lf, _, _, _, lM_eq rfl rfl rfl rfl rfl, H2.fin (a := [I]) lN2 (fun b hb => ⟨oI, by rw [List.mem_singleton.mp hb]; exact sB2 _ hIm, not_row (c := "range_iterator") hoI (by decide)⟩), by simp [hi], firstBad_snoc hb, fun q hq => (mem_clean.mp hq).2⟩
  · rintro m₁ nw h tk ⟨li, ld, lx, lf, ts, rs, u, rfl, H, hi, hb, hof⟩ F N
    have hi5 : ts.length = 5 := hi
    clear hi hI lF lN
    have hrl : rs.length = 5 := by rw [← H.its.len]; exact hi5
    unfold lM at F
    k_steps
    refine Wait.mk ?_
    rename Fr _ _ _ _ => lF
    k_dflt (refine For_turns lF ?_ (by intro _; rfl) hpo)
    k_steps
    refine Wait.mk ?_
    rename Fr _ _ _ _ => lF
    rename News _ _ _ _ => lN
    rename (∀ p, p ∈ nw → p.1 < _) => lW
    rename_i W _ _
    k_dflt (refine iter_listTurns (vs := [.int 3 _, .int 0 _, .int 4 _, .int 1 _, .int 2 _]) rfl lF lN (.head _) rfl rfl ?_)
    intro I2 hI2
    refine items_ind (fun i m₁ nw' => ∃ rows fs u, m₁ = lM li ld lx lf sl u ∧ LS nw' [] li ld lx lf ts rs rows fs ∧ IdxOn rs (fun j => j ∈ places.take i) rows fs ∧ ∀ p ∈ nw', p.1 ∉ [I2]) _ ?_ ?_ ?_ ⟨.head _, trivial⟩
    · rintro i a v m₁ nw' h tk ha hav ⟨rows, fs, u, rfl, H3, J3, hof3⟩ hkp F oI hoI N
      obtain ⟨p, t, hp, rfl⟩ := place_pick ha hav
      obtain ⟨hp5, hpn, hpS⟩ := place_facts hp
      obtain ⟨big, ebig, N1⟩ : ∃ b, b = (I2, oI) :: nw' ∧ News _ _ h b := ⟨_, rfl, N⟩
      have hsub : ∀ p ∈ nw', p ∈ big := fun p hp => ebig ▸ .tail _ hp
      have hIm : (I2, oI) ∈ big := ebig ▸ .head _
      have H4 : LS big [I2] li ld lx lf ts rs rows fs := H3.start (a := [I2]) hsub hof3
      have hWm := hsub _ hkp.1
      obtain ⟨_, _, z1, _⟩ := H.index
      obtain ⟨_, _, z2, _⟩ := H.faults
      have wX := lW _ z1
      have wF := lW _ z2
      have wI := hI2 _ (.head _)
      clear z1 z2 N H3 hof3 ha hav ebig hsub hkp lF lN H
      obtain ⟨ivs, ni, a1, a2⟩ := H4.items
      obtain ⟨xvs, nx, c1, _⟩ := H4.index
      have hpt : p < ts.length := by omega
      have hpr : p < rs.length := by omega
      obtain ⟨tp, etp⟩ : ∃ x, x = ts[p] := ⟨_, rfl⟩
      obtain ⟨rp, erp⟩ : ∃ x, x = rs[p] := ⟨_, rfl⟩
      have hrp : rs[p]? = some rp := erp ▸ List.getElem?_eq_getElem hpr
      have htp : ts[p]? = some tp := etp ▸ List.getElem?_eq_getElem hpt
      clear etp erp
      obtain ⟨tk0, htk⟩ := a2.at htp
      have It := H4.its.at' p _ _ htp hrp
      have hIx : I2 ≠ lx := fun e => H4.offX (by rw [e]; simp)
      have hIf : I2 ≠ lf := fun e => H4.offF (by rw [e]; simp)
      unfold lM at F
      refine name_post ?_
      intro qP eqP
      dsimp only
      k_steps
      refine Wait.mk ?_
      rename Fr _ _ _ _ => lF
      rename News _ _ _ _ => lN
      k_dflt (refine item_at lN (by k_mem) (by omega) (by omega) htk ?_ (by with_unfolding_all rfl))
      clear htk
      k_steps
      refine Wait.mk ?_
      rename Fr _ _ _ _ => lF
      rename News _ _ _ _ => lN
      k_dflt (refine read1_step K1 lF X' lN T' rfl (.head _) It (by decide) (by decide) ?_)
      intro v2 tl h2 tk2 lF lN hs2 hr2
      k_steps
      refine Wait.mk ?_
      rename Fr _ _ _ _ => lF
      rename News _ _ _ _ => lN
      k_dflt (refine in_step (S' := fun j => j ∈ places.take (i + 1)) K1 lF X' lN T' rfl (H4.grow fun q hq => hs2 _ (.tail _ hq)) J3 hrl (fun k v h => (H4.its.memR h).1) hrp hp5 hpn (fun k v e => (It.keys k v e).1) (fun _ _ => rfl) hpS hr2 ⟨_, .tail _ c1⟩ (by decide) (by decide) ?_)
      intro rows' fs' tl2 h3 tk3 J4 H5 lF lN hs3
      have hI3 : (I2, oI) ∈ tl2 := hs3 _ (hs2 _ (.tail _ hIm)) hIx hIf
      have hW3 := hs3 _ (hs2 _ (.tail _ hWm)) (Nat.ne_of_gt wX) (Nat.ne_of_gt wF)
      k_steps
      subst eqP
      k_steps
      rename Fr _ _ _ _ => lF
      rename News _ _ _ _ => lN
      refine ⟨_, _, _, clean tl2 [I2], rfl, lF, fin_news lN hI3, fin_off, ⟨mem_clean.mpr ⟨hW3, by simpa using Nat.ne_of_lt wI⟩, trivial⟩, rows', fs', _, lM_eq rfl rfl rfl rfl rfl, H5.fin (a := [I2]) lN (fun b hb => ⟨oI, by rw [List.mem_singleton.mp hb]; exact hI3, not_row (c := "list_iterator") hoI (by decide)⟩), J4, fun q hq => (mem_clean.mp hq).2⟩
    · rintro m₁ nw' h tk ⟨rows, fs, u, rfl, H3, J3, hof3⟩ F N
      have I5 : Idx rs rows fs := J3.idx hrl (fun k v h => (H3.its.memR h).1) (fun i hi => by show i ∈ places; simp [places]; omega)
      clear J3 hof3 lF lN hI2 lW H hb
      unfold lM at F
      k_steps
      refine Wait.mk ?_
      rename Fr _ _ _ _ => lF
      k_dflt (refine For_turns lF ?_ (by intro _; rfl) hpo)
      k_steps
      refine Wait.mk ?_
      rename Fr _ _ _ _ => lF
      rename News _ _ _ _ => lN
      rename IntsAre _ (List.take _ _) => hW
      have hwl := hW.length
      rw [List.length_take] at hwl
      have hys := ints_app hW (a := 2327) (b := 3926) (c := 2224) (d := 1471)
      k_dflt (refine add_at lF lN (.tail _ (.head _)) (.head _) (by simp; omega) ?_)
      intro D3 h3 lF lN lt3
      k_steps
      refine Wait.mk ?_
      rename Fr _ _ _ _ => lF
      rename News _ _ _ _ => lN
      k_dflt (refine zip_sl (by decide +kernel) rfl lF lN (.head _) rfl rfl ?_)
      intro I hI
      obtain ⟨_, _, z1, _⟩ := H3.index
      obtain ⟨_, _, z2, _⟩ := H3.faults
      have wX := lt3 _ (.tail _ (.tail _ z1))
      have wF := lt3 _ (.tail _ (.tail _ z2))
      clear z1 z2
      refine items_ind (fun i m₁ nw => ∃ li ld ts rs rows fs u, m₁ = lM li ld lx lf sl u ∧ LS nw [] li ld lx lf ts rs rows fs ∧ Idx rs rows fs ∧ ∀ p ∈ nw, p.1 ∉ [I + 4, I + 2, I + 3, I, I + 1]) _ ?_ ?_ ?_ ⟨.head _, trivial⟩
      · rintro i a v m₁ nw h tk ha hav ⟨li, ld, ts, rs, rows, fs, u, rfl, H, Ix, hof⟩ hkp F o1 c1 o2 c2 o3 c3 o4 c4 o5 c5 N
        clear H3 I5 hI lF lN
        obtain ⟨sg, T, ts0, x, tx, hsg, hsl, rfl, hT⟩ := zip_pick ha hav (hys _ _ _ _)
        obtain ⟨its, eits⟩ : ∃ x, x = [(I + 4, o1), (I + 2, o2), (I + 3, o3), (I, o4), (I + 1, o5)] := ⟨_, rfl⟩
        obtain ⟨O, eO⟩ : ∃ x, x = [I + 4, I + 2, I + 3, I, I + 1] := ⟨_, rfl⟩
        obtain ⟨big, ebig, N1⟩ : ∃ b, b = its ++ nw ∧ News _ _ h b := ⟨_, rfl, eits ▸ N⟩
        have hsub : ∀ p ∈ nw, p ∈ big := fun p hp => ebig ▸ List.mem_append_right _ hp
        have hIm : ∀ p ∈ its, p ∈ big := fun p hp => ebig ▸ List.mem_append_left _ hp
        have H1 : LS big O li ld lx lf ts rs rows fs := by
          have := H.start (a := O) (big' := big) hsub (eO ▸ hof)
          rwa [List.append_nil] at this
        have hOm : ∀ b ∈ O, ∃ o, (b, o) ∈ its ∧ ∀ k p t u n, o ≠ rowObj k p t u n := by
          intro b hb
          rw [eO] at hb
          rw [eits]
          simp only [List.mem_cons, List.not_mem_nil, or_false] at hb
          rcases hb with rfl | rfl | rfl | rfl | rfl
          · exact ⟨o1, .head _, not_row (c := "zip") c1 (by decide)⟩
          · exact ⟨o2, .tail _ (.head _), not_row (c := "tuple") c2 (by decide)⟩
          · exact ⟨o3, .tail _ (.tail _ (.head _)), not_row (c := "tuple") c3 (by decide)⟩
          · exact ⟨o4, .tail _ (.tail _ (.tail _ (.head _))), not_row (c := "str_ascii_iterator") c4 (by decide)⟩
          · exact ⟨o5, .tail _ (.tail _ (.tail _ (.tail _ (.head _)))), not_row (c := "list_iterator") c5 (by decide)⟩
        have hitO : ∀ p ∈ its, p.1 ∈ O := by
          rw [eits, eO]
          intro p hp
          simp only [List.mem_cons, List.not_mem_nil, or_false] at hp
          rcases hp with rfl | rfl | rfl | rfl | rfl <;> simp
        have hWm := hsub _ hkp.1
        have hWO := hof _ hkp.1
        rw [← eO] at hWO
        rw [← eits]
        clear N H hof ha hav ebig hsub hkp c1 c2 c3 c4 c5 hys eits
        unfold lM at F
        refine name_post ?_
        intro qP eqP
        dsimp only
        k_steps
        refine Wait.mk ?_
        rename Fr _ _ _ _ => lF
        rename News _ _ _ _ => lN
        obtain ⟨p, hp5, ep⟩ : ∃ p : Nat, p < 5 ∧ x.fmod 5 = (p : Int) := by
          have := Int.fmod_eq_emod_of_nonneg x (by decide : (0 : Int) ≤ 5)
          exact ⟨(x.fmod 5).toNat, by omega, by omega⟩
        obtain ⟨y, hy, ey⟩ : ∃ y : Nat, y < 864 ∧ (x.fdiv 5).fmod 864 = (y : Int) := by
          have := Int.fmod_eq_emod_of_nonneg (x.fdiv 5) (by decide : (0 : Int) ≤ 864)
          exact ⟨((x.fdiv 5).fmod 864).toNat, by omega, by omega⟩
        k_dflt (rw [ep, ey] at lF)
        k_dflt (rw [ey])
        have hm3 := Int.fmod_eq_emod_of_nonneg (y : Int) (by decide : (0 : Int) ≤ 3)
        obtain ⟨key, tq, hk1, hk2, hq⟩ := key_pick (vs := [_, _, _]) (d := ((y : Int).fmod 3).toNat) (.cons _ _ (.cons _ _ (.cons _ _ .nil))) (by omega)
        k_dflt (refine item_at lN (.head _) (by omega) (by omega) hq ?_ (by with_unfolding_all rfl))
        clear hq hm3 ep ey
        k_steps
        refine Wait.mk ?_
        rename Fr _ _ _ _ => lF
        rename News _ _ _ _ => lN
        obtain ⟨d, hd8, ed⟩ : ∃ d : Nat, d < 8 ∧ ((y : Int).fdiv 3).fmod 8 = (d : Int) := by
          have := Int.fmod_eq_emod_of_nonneg ((y : Int).fdiv 3) (by decide : (0 : Int) ≤ 8)
          exact ⟨(((y : Int).fdiv 3).fmod 8).toNat, by omega, by omega⟩
        k_dflt (rw [ed])
        k_dflt (refine item_spec (d := d) K1 lF X' lN T' rfl hk2 (by omega) hd8 (by decide) (by decide) ?_)
        intro T2 nT vi vo tl h' tk' lF lN hs ho hT2 di do'
        obtain ⟨ti, rfl⟩ : ∃ ti, vi = .str _ ti := by cases di; exact ⟨_, rfl⟩
        have hnew : ∀ q ∈ big, q ∈ tl := fun q hq => hs _ (.tail _ (.tail _ hq))
        have hoffs := H1.offs (fun b hb => (hOm b hb).elim fun o h => ⟨o, hIm _ h.1⟩)
        have hv := rd_new (B := tl) (off := lx :: lf :: O) (fun b hb => (hoffs b hb).imp fun o h => List.mem_cons_of_mem _ (List.mem_cons_of_mem _ h)) (fun _ hp => hp) do'
        have Hb := H1.grow hnew
        have It := it_of hk1 hsg hd8
        obtain ⟨tn, etn⟩ : ∃ z, z = (itemOf key sg d).1 := ⟨_, rfl⟩
        obtain ⟨rn, ern⟩ : ∃ z, z = (itemOf key sg d).2 := ⟨_, rfl⟩
        rw [← etn] at It hT2
        rw [← ern] at It hv
        clear do' ho hs hoffs di ed etn ern
        obtain ⟨ivs, ni, a1, a2⟩ := Hb.items
        obtain ⟨xvs, nx, x1, _⟩ := Hb.index
        have hrl : rs.length = 5 := Ix.len
        have htl : ts.length = 5 := by rw [Hb.its.len]; exact Ix.len
        have hpt : p < ts.length := by omega
        have hpr : p < rs.length := by omega
        obtain ⟨tp, etp⟩ : ∃ x, x = ts[p] := ⟨_, rfl⟩
        obtain ⟨rp, erp⟩ : ∃ x, x = rs[p] := ⟨_, rfl⟩
        have hrp : rs[p]? = some rp := erp ▸ List.getElem?_eq_getElem hpr
        have htp : ts[p]? = some tp := etp ▸ List.getElem?_eq_getElem hpt
        clear etp erp
        obtain ⟨tk0, htk⟩ := a2.at htp
        have Ip := Hb.its.at' p _ _ htp hrp
        k_steps
        refine Wait.mk ?_
        rename Fr _ _ _ _ => lF
        rename News _ _ _ _ => lN
        k_dflt (refine item_at lN (by k_mem) (by omega) (by omega) htk ?_ (by with_unfolding_all rfl))
        clear htk
        k_steps
        refine Wait.mk ?_
        rename Fr _ _ _ _ => lF
        rename News _ _ _ _ => lN
        k_dflt (refine read1_step K1 lF X' lN T' rfl (.head _) Ip (by decide) (by decide) ?_)
        intro v2 tl2 h2 tk2 lF lN hs2 hr2
        k_steps
        refine Wait.mk ?_
        rename Fr _ _ _ _ => lF
        rename News _ _ _ _ => lN
        k_dflt (refine out_step K1 lF X' lN T' rfl (Hb.grow fun q hq => hs2 _ (.tail _ hq)) Ix hrp hr2 ⟨_, .tail _ x1⟩ (by decide) (by decide) ?_)
        intro rows3 fs3 tl3 h3 tk3 J3 H3 lF lN hs3
        k_steps
        refine Wait.mk ?_
        rename Fr _ _ _ _ => lF
        rename News _ _ _ _ => lN
        k_dflt (refine read1_step K1 lF X' lN T' rfl (.head _) It (by decide) (by decide) ?_)
        intro v4 tl4 h4 tk4 lF lN hs4 hr4
        k_steps
        refine Wait.mk ?_
        rename Fr _ _ _ _ => lF
        rename News _ _ _ _ => lN
        obtain ⟨_, _, x3, _⟩ := H3.index
        k_dflt (refine in_step (S' := fun _ => True) (rs' := rs.take p ++ [rn] ++ rs.drop (p + 1)) K1 lF X' lN T' rfl (H3.grow fun q hq => hs4 _ (.tail _ hq)) J3 Ix.len Ix.keys (by rw [put_get hpr]; simp) hp5 (fun h => h rfl) (fun k v e => (It.keys k v e).1) (fun i hi => by rw [put_get hpr, if_neg hi]) (fun i => ⟨fun _ => by omega, fun _ => trivial⟩) hr4 ⟨_, .tail _ x3⟩ (by decide) (by decide) ?_)
        intro rows5 fs5 tl5 h5 tk5 J5 H5 lF lN hs5
        have ItsN := Hb.its.put It hpt
        have I5 : Idx _ rows5 fs5 := J5.idx (by simp; omega) (fun k v h => (ItsN.memR h).1) (fun _ _ => trivial)
        have keep5 : ∀ q ∈ tl, q.1 ≠ lx → q.1 ≠ lf → q ∈ tl5 := fun q hq e1 e2 => hs5 _ (hs4 _ (.tail _ (hs3 _ (hs2 _ (.tail _ hq)) e1 e2))) e1 e2
        obtain ⟨ivs5, ni5, a5, a6⟩ := H5.items
        obtain ⟨dvs5, nd5, b5, b6⟩ := H5.drawn
        have hil : ivs5.length = 5 := a6.len_eq.trans htl
        have hdl : dvs5.length = 5 := by have h1 := b6.length; simp only [List.length_map] at h1; omega
        clear J5 J3 H3 hr2 hr4 x3 hs2 hs3 hs4 hs5 a1 a2 x1 Ip hrp htp
        k_steps
        refine Wait.mk ?_
        rename Fr _ _ _ _ => lF
        rename News _ _ _ _ => lN
        k_dflt (refine cut_upto' lF lN a5 (by omega) (by omega) (by omega) ?_ (by with_unfolding_all rfl) (fun _ => rfl))
        intro W1 h6 lF lN lt6
        k_steps
        refine Wait.mk ?_
        rename Fr _ _ _ _ => lF
        rename News _ _ _ _ => lN
        k_dflt (refine add_at lF lN (.tail _ (.head _)) (.head _) (by simp; omega) ?_)
        intro W2 h7 lF lN lt7
        k_steps
        refine Wait.mk ?_
        rename Fr _ _ _ _ => lF
        rename News _ _ _ _ => lN
        k_dflt (refine cut_from' lF lN (by k_mem) (by omega) (by omega) (by omega) ?_ (by with_unfolding_all rfl) (fun _ => rfl))
        intro W3 h8 lF lN lt8
        k_steps
        refine Wait.mk ?_
        rename Fr _ _ _ _ => lF
        rename News _ _ _ _ => lN
        k_dflt (refine add_at lF lN (.tail _ (.head _)) (.head _) (by simp; omega) ?_)
        intro W4 h9 lF lN lt9
        k_steps
        refine Wait.mk ?_
        rename Fr _ _ _ _ => lF
        rename News _ _ _ _ => lN
        k_dflt (refine cut_upto' lF lN (by k_mem) (by omega) (by omega) (by omega) ?_ (by with_unfolding_all rfl) (fun _ => rfl))
        intro U1 g6 lF lN ut6
        k_steps
        refine Wait.mk ?_
        rename Fr _ _ _ _ => lF
        rename News _ _ _ _ => lN
        k_dflt (refine add_at lF lN (.tail _ (.head _)) (.head _) (by simp; omega) ?_)
        intro U2 g7 lF lN ut7
        k_steps
        refine Wait.mk ?_
        rename Fr _ _ _ _ => lF
        rename News _ _ _ _ => lN
        k_dflt (refine cut_from' lF lN (by k_mem) (by omega) (by omega) (by omega) ?_ (by with_unfolding_all rfl) (fun _ => rfl))
        intro U3 g8 lF lN ut8
        k_steps
        refine Wait.mk ?_
        rename Fr _ _ _ _ => lF
        rename News _ _ _ _ => lN
        k_dflt (refine add_at lF lN (.tail _ (.head _)) (.head _) (by simp; omega) ?_)
        intro U4 g9 lF lN ut9
        have e1 : ((p : Int) + 1).toNat = p + 1 := by omega
        have e2 : ((p : Int)).toNat = p := by omega
        rw [e1, e2] at lN
        obtain ⟨B6, eB6, lN6⟩ : ∃ B, B = _ ∧ News _ _ _ B := ⟨_, rfl, lN⟩
        have s6 : ∀ q ∈ tl5, q ∈ B6 := fun q hq => by rw [eB6]; simp [hq]
        have m4 : (W4, listOf (List.toArray (ivs5.take p ++ [Value.str tn ti] ++ ivs5.drop (p + 1))) 0) ∈ B6 := by rw [eB6]; exact .tail _ (.tail _ (.tail _ (.tail _ (.tail _ (.head _)))))
        have mU : (U4, listOf (List.toArray (dvs5.take p ++ [vo] ++ dvs5.drop (p + 1))) 0) ∈ B6 := by rw [eB6]; exact .head _
        have hit5 : ∀ q ∈ its, q ∈ tl5 := fun q hq => keep5 q (hnew q (hIm q hq)) (fun e => H1.offX (by rw [← e]; exact .tail _ (hitO q hq))) (fun e => H1.offF (by rw [← e]; exact hitO q hq))
        have hO5 : ∀ b ∈ O, ∃ o, (b, o) ∈ tl5 := fun b hb => (hOm b hb).elim fun o h => ⟨o, hit5 _ h.1⟩
        have hW6 := s6 _ (keep5 _ (hnew _ hWm) (Nat.ne_of_gt wX) (Nat.ne_of_gt wF))
        have oW := H5.new hO5 (D := W4) (fun q hq => lt9 q (by simp [hq]))
        have oU := H5.new hO5 (D := U4) (fun q hq => ut9 q (by simp [hq]))
        have H6 := (H5.grow s6).put m4 (strs_put a6 p tn ti) mU (dat_put (b6.mono (clean_mono s6)) p (hv.mono fun q hq => mem_clean.mpr ⟨s6 _ (keep5 q (mem_clean.mp hq).1 (fun e => (mem_clean.mp hq).2 (by rw [e]; exact .head _)) (fun e => (mem_clean.mp hq).2 (by rw [e]; exact .tail _ (.head _)))), (mem_clean.mp hq).2⟩)) oW oU ItsN
        have it6 : ∀ q ∈ its, q ∈ B6 := fun q hq => s6 _ (hit5 q hq)
        clear lN eB6 hit5 hO5 oW oU m4 mU a5 a6 b5 b6 keep5 hnew hIm hWm hv lt6 lt7 lt8 lt9 ut6 ut7 ut8 ut9 H5 H1 Hb
        generalize List.take p rs ++ [rn] ++ List.drop (p + 1) rs = rsN at *
        generalize List.take p ts ++ [tn] ++ List.drop (p + 1) ts = tsN at *
        k_steps
        refine Wait.mk ?_
        rename Fr _ _ _ _ => lF
        k_dflt (refine For_turns lF ?_ (by intro _; rfl) hpo)
        k_steps
        refine Wait.mk ?_
        rename Fr _ _ _ _ => lF
        rename News _ _ _ _ => lN
        rename IntsAre _ _ => hso
        rename List.Perm _ _ => hsp
        rename List.Pairwise _ _ => hspw
        rename (List.length _ = 0 + 1 + 1) => hse
        have hf1 := Int.fmod_eq_emod_of_nonneg ((y : Int).fdiv 24) (by decide : (0 : Int) ≤ 6)
        have hf2 := Int.fmod_eq_emod_of_nonneg ((y : Int).fdiv 144) (by decide : (0 : Int) ≤ 6)
        obtain ⟨lo, hi, t1, t2, ev, hlo, hhi⟩ := sort2 hso hse hsp hspw (by omega) (by omega)
        clear hf1 hf2
        subst ev
        obtain ⟨Bk, eBk, lNk⟩ : ∃ B, B = _ ∧ News _ _ _ B := ⟨_, rfl, lN⟩
        have kB : ∀ q ∈ B6, q ∈ Bk := fun q hq => by rw [eBk]; simp [hq]
        k_dflt (refine iter_listTurns (vs := [_, _]) rfl lF lN (.head _) rfl rfl ?_)
        intro I2 hI2
        refine items_ind (fun i m₁ nw => ∃ u, m₁ = lM W4 U4 lx lf sl u ∧ (∀ q ∈ Bk, q ∈ nw) ∧ ∀ q ∈ nw, q.1 ∉ [I2]) _ ?_ ?_ ?_ ⟨.head _, trivial⟩
        · rintro i2 a v m₁ nw2 h tk ha hav ⟨u2, rfl, hB, hof2⟩ hkp F oI hoI N
          obtain ⟨A2, lo2, hi2, q1, q2, n2, rfl, hA2, hlo2, hhi2⟩ := pair_pick ha hav (Bk := Bk) (by rw [eBk]; exact .tail _ (.tail _ (.head _))) (by rw [eBk]; exact .tail _ (.head _)) hlo hhi
          obtain ⟨big2, ebig2, N2⟩ : ∃ b, b = (I2, oI) :: nw2 ∧ News _ _ h b := ⟨_, rfl, N⟩
          have hsub2 : ∀ p ∈ nw2, p ∈ big2 := fun p hp => ebig2 ▸ .tail _ hp
          have hIm2 : (I2, oI) ∈ big2 := ebig2 ▸ .head _
          have hBk2 : ∀ q ∈ Bk, q ∈ big2 := fun q hq => hsub2 q (hB q hq)
          have hkeep := hsub2 _ hkp.1
          have hkI := hI2 _ (.head _)
          have hBI : ∀ q ∈ Bk, q.1 ∉ [I2] := fun q hq => hof2 q (hB q hq)
          have H7 := H6.grow (fun q hq => hBk2 q (kB q hq))
          have hA3 := hBk2 _ hA2
          clear N ha hav ebig2 hB hof2 hkp lF lN lNk hI2 hso hsp hspw hse eBk hA2 H6 hlo hhi
          obtain ⟨ivs7, ni7, a7, a8⟩ := H7.items
          have hil7 : ivs7.length = 5 := by rw [a8.len_eq, ItsN.len]; exact I5.len
          unfold lM at F
          refine name_post ?_
          intro qP2 eqP2
          dsimp only
          k_steps
          refine Wait.mk ?_
          rename Fr _ _ _ _ => lF
          rename News _ _ _ _ => lN
          k_dflt (refine due_step K1 lF X' lN T' rfl H7 I5.len hlo2 hhi2 (by decide) (by decide) ?_)
          intro v1 tA hA tkA lF lN sA dA
          have a9 := sA _ a7
          k_steps
          refine Wait.mk ?_
          rename Fr _ _ _ _ => lF
          rename News _ _ _ _ => lN
          k_dflt (refine cut_at' lF lN (by k_mem) (by omega) (by omega) (by omega) (by omega) ?_ (by with_unfolding_all rfl) (fun _ => rfl))
          intro Z1 hZ lF lN ltZ
          k_steps
          have a10 : StrsAre (List.take ((hi2 : Int).toNat - (lo2 : Int).toNat) (List.drop (lo2 : Int).toNat ivs7)) ((tsN.drop lo2).take (hi2 - lo2)) := (strs_take_drop (strs_take_drop a8 lo2).2 (hi2 - lo2)).1
          have hpk := pairs_ok ItsN (l := cutR rsN lo2 hi2) (fun r hr => cut_sub hr)
          refine Wait.mk ?_
          rename Fr _ _ _ _ => lF
          rename News _ _ _ _ => lN
          k_dflt (refine read_step (ts := (tsN.drop lo2).take (hi2 - lo2)) (rs := cutR rsN lo2 hi2) K1 lF X' lN T' rfl (.tail _ (.head _)) a10 (cut_map ItsN lo2 hi2) (fun t ht => (ItsN.mem (List.mem_of_mem_drop (List.mem_of_mem_take ht))).1) (by rw [List.length_take]; omega) (by decide) (by decide) ?_)
          intro v2 tB hB' tkB lF lN sB dB
          k_steps
          refine Wait.mk ?_
          rename Fr _ _ _ _ => lF
          rename News _ _ _ _ => lN
          k_dflt (refine due_ne lN dB (dA.mono fun q hq => sB _ (.tail _ (.tail _ hq))) hpk (by first | exact Nat.le_of_ble_eq_true rfl | ktr_units | decide) ?_)
          k_steps
          refine Wait.mk ?_
          rename Fr _ _ _ _ => lF
          rename News _ _ _ _ => lN
          k_dflt (refine told_step K1 lF X' lN T' rfl (H7.grow fun q hq => sB _ (.tail _ (.tail _ (sA _ hq)))) I5 hlo2 hhi2 (by decide) (by decide) ?_)
          intro v3 tC hC tkC lF lN sC dC
          have a11 := sC _ (sB _ (.tail _ (.tail _ a9)))
          k_steps
          refine Wait.mk ?_
          rename Fr _ _ _ _ => lF
          rename News _ _ _ _ => lN
          k_dflt (refine due_ne lN dC (dA.mono fun q hq => sC _ (sB _ (.tail _ (.tail _ hq)))) hpk (by first | exact Nat.le_of_ble_eq_true rfl | ktr_units | decide) ?_)
          k_steps
          refine Wait.mk ?_
          rename Fr _ _ _ _ => lF
          rename News _ _ _ _ => lN
          k_dflt (refine cut_at' lF lN (by k_mem) (by omega) (by omega) (by omega) (by omega) ?_ (by with_unfolding_all rfl) (fun _ => rfl))
          intro Z2 hZ2 lF lN ltZ2
          k_steps
          refine Wait.mk ?_
          rename Fr _ _ _ _ => lF
          rename News _ _ _ _ => lN
          k_dflt (refine strs_ne lN (.tail _ (sC _ (sB _ (.tail _ (.head _))))) a10 (.head _) a10 (fun t ht => (ItsN.mem (List.mem_of_mem_drop (List.mem_of_mem_take ht))).2) (by first | exact Nat.le_of_ble_eq_true rfl | ktr_units | decide) ?_)
          k_steps
          subst eqP2
          k_steps
          rename Fr _ _ _ _ => lF
          rename News _ _ _ _ => lN
          obtain ⟨B9, eB9, lN9⟩ : ∃ B, B = _ ∧ News _ _ _ B := ⟨_, rfl, lN⟩
          have s9 : ∀ q ∈ big2, q ∈ B9 := fun q hq => by rw [eB9]; exact .tail _ (sC _ (sB _ (.tail _ (.tail _ (sA _ hq)))))
          refine ⟨_, _, _, clean B9 [I2], rfl, lF, fin_news lN9 (s9 _ hIm2), fin_off, ⟨mem_clean.mpr ⟨s9 _ hkeep, by simpa using Nat.ne_of_lt hkI⟩, trivial⟩, _, lM_eq rfl rfl rfl rfl rfl, fun q hq => mem_clean.mpr ⟨s9 _ (hBk2 q hq), hBI q hq⟩, fun q hq => (mem_clean.mp hq).2⟩
        · rintro m₁ nw2 h tk ⟨u2, rfl, hB, hof2⟩ F N
          have H8 := H6.grow (fun q hq => hB q (kB q hq))
          have it8 : ∀ q ∈ its, q ∈ nw2 := fun q hq => hB _ (kB _ (it6 q hq))
          have hW8 := hB _ (kB _ hW6)
          clear lF lN lNk hI2 hso hsp hspw hse eBk H6 hof2 hB kB
          unfold lM at F
          k_steps
          subst eqP
          k_steps
          rename Fr _ _ _ _ => lF
          rename News _ _ _ _ => lN
          refine ⟨_, _, _, clean nw2 O, rfl, lF, fun q hq => ?_, fun q hq q' hq' e => (mem_clean.mp hq).2 (e ▸ hitO q' hq'), ⟨mem_clean.mpr ⟨hW8, hWO⟩, trivial⟩, W4, U4, tsN, rsN, rows5, fs5, _, lM_eq rfl rfl rfl rfl rfl, LS.fin (a := O) (off := []) (by rw [List.append_nil]; exact H8) lN (fun b hb => by
            rw [List.append_nil] at hb
            obtain ⟨o, h1, h2⟩ := hOm b hb
            exact ⟨o, it8 _ h1, h2⟩), I5, by rw [← eO]; exact fun q hq => (mem_clean.mp hq).2⟩
          rcases List.mem_append.mp hq with h | h
          · exact lN _ (it8 q h)
          · exact lN _ (mem_clean.mp h).1
        · exact ⟨_, lM_eq rfl rfl rfl rfl rfl, fun q hq => by rw [eBk] at hq; exact hq, fun q hq hm => Nat.lt_irrefl _ (by have := hI2 q hq; rw [List.mem_singleton.mp hm] at this; exact this)⟩
      · rintro m₁ nw h tk ⟨li, ld, ts, rs, rows, fs, u, rfl, H, Ix, hof⟩ F N
        clear H3 I5 hI lF lN hys hof
        obtain ⟨dvs, nd, b1, b0⟩ := H.drawn
        obtain ⟨xvs, nx, x1, x2⟩ := H.index
        obtain ⟨fvs, nf, f1, f2⟩ := H.faults
        have b2 : DatAll nw dvs (rs.map rdDat) := b0.mono fun p hp => (mem_clean.mp hp).1
        have hdl : dvs.length = 5 := by have h1 := b2.length; have h2 := Ix.len; simp only [List.length_map] at h1; omega
        have f3 := ints_dat f2
        clear b0 f2
        try clear hSI hW
        unfold lM at F
        k_steps
        refine Wait.mk ?_
        rename Fr _ _ _ _ => lF
        rename News _ _ _ _ => lN
        k_dflt (refine lc_assign (tst := some _) (ce := fun C => _) (cs := fun _ => []) lF rfl (by with_unfolding_all rfl) (by with_unfolding_all rfl) rfl (by decide) (fun C => rfl) (fun _ _ _ _ h => nomatch h) rfl rfl ?_)
        k_steps
        refine Wait.mk ?_
        rename Fr _ _ _ _ => lF
        rename News _ _ _ _ => lN
        k_dflt (refine lc_enum rfl lF lN b1 ?_ (fun C i m₂ h => ∃ x y, m₂ (Str.ofString "place") = some x ∧ m₂ (Str.ofString "one") = some y ∧ ((∃ t, x = Value.int ((i : Nat) : Int) t) ∧ dvs[i]? = some y)) (fun i ys nw' => (∀ p ∈ nw, p ∈ nw') ∧ DatAll nw' ys ((rowsTo rs i).map rowDat)) ⟨fun _ hp => hp, .nil⟩ (fun C => binds_pair (R := fun i x y => (∃ t, x = Value.int ((i : Nat) : Int) t) ∧ dvs[i]? = some y) rfl rfl rfl (by decide) rfl ?_) ?_ ?_)
        · rw [sizeLine_eq]; omega
        · rintro i v h ⟨⟨T, t, x, e1, e2, e3⟩, _⟩
          exact ⟨T, _, x, e1, e3, ⟨t, rfl⟩, e2⟩
        · rintro hB C D i ys nw' h tk m₂ oC led E' hi ⟨hsub, hJ⟩ ⟨x, y, hm1, hm2, ⟨t, rfl⟩, hv⟩ GR
          obtain ⟨r, hr, hd, _⟩ := rd_at b2 hv
          have lF := GR.fr
          have lN := GR.nws
          have lC := GR.frame
          have lO := GR.ns
          have lS := GR.sub
          unfold CTurn tstRun
          dsimp only
          cases r with
          | bad b =>
            obtain ⟨t, rfl⟩ := in_bad_rd hd
            k_steps
            refine CStep.same lF lN GR.sub ⟨hsub, ?_⟩
            rw [rowsTo_bad hr]
            exact hJ
          | ok k v =>
            obtain ⟨T, nT, tx, ty, rfl, hT⟩ := in_ok_rd hd
            have hT' := lS _ (hsub _ hT)
            k_steps
            refine Wait.mk ?_
            rename News _ _ _ _ => lN
            k_dflt (refine item_tuple (j := 0) ⟨_, (lN _ hT').1, rfl, nT, rfl⟩ (by decide) (by decide) rfl rfl ?_ (by with_unfolding_all rfl) (by intro _; with_unfolding_all rfl))
            k_steps
            rename Fr _ _ _ _ => lF
            rename News _ _ _ _ => lN
            rename (∀ p, p ∈ led → p.1 < _) => ltD
            refine CStep.one lF lN (.head _) (fun p hp => .tail _ hp) ltD lS ⟨fun p hp => .tail _ (hsub p hp), ?_⟩
            rw [rowsTo_ok hr, List.map_append]
            exact (hJ.mono (fun p hp => .tail _ hp)).append (.one (.list (vs := [_, _]) (.head _) (.cons (.str _ _) (.cons (.int _ _) .nil))))
        · rintro hB D ys nw' ⟨hsub, hJ⟩ off1 off2 h tk lF lN
          rw [hdl] at hJ
          k_steps
          rename Fr _ _ _ _ => lF
          rename News _ _ _ _ => lN
          k_dflt (refine sorted_rows lF lN (.head _) (hJ.mono fun p hp => .tail _ hp) (rowsTo_ok_all Ix.len Ix.keys) (rowsTo_nodup Ix.len Ix.keys 5) (rowsTo_len rs 5) (by first | exact Nat.le_of_ble_eq_true rfl | ktr_units | decide) ?_)
          intro D2 c2 h2 vs2 rows2 lF lN lt2 hd2 hs2 hm2
          have eR := rows_same Ix hs2 hm2
          have ok2 : ∀ r ∈ rows2, RowOk r := eR ▸ Ix.rowOk
          k_steps
          refine Wait.mk ?_
          rename Fr _ _ _ _ => lF
          rename News _ _ _ _ => lN
          k_dflt (refine kqd_eq lN (.tail _ (.tail _ (hsub _ x1))) rfl rfl x2 (fun p hp => .tail _ (.tail _ (hsub p hp))) (.head _) rfl rfl hd2 (fun p hp => .tail _ hp) (rows_kqd Ix.rowOk) (rows_kqd ok2) (by first | exact Nat.le_of_ble_eq_true rfl | ktr_units | decide) ?_)
          rw [dec_true _ (congrArg (List.map rowDat) eR)]
          obtain ⟨B3, eB3, lN3⟩ : ∃ B, B = _ ∧ News _ _ _ B := ⟨_, rfl, lN⟩
          have n1 : ∀ p ∈ nw, p ∈ B3 := fun p hp => by rw [eB3]; exact .tail _ (.tail _ (hsub p hp))
          have x1' := n1 _ b1
          have f1' := n1 _ f1
          clear lN eB3 hd2 hs2 hm2 ok2 eR lt2 hJ off1 off2 hsub x2 x1
          k_steps
          refine Wait.mk ?_
          rename Fr _ _ _ _ => lF
          k_dflt (refine lc_eval (tst := some _) (ce := fun C => _) (cs := fun _ => []) lF (by with_unfolding_all rfl) rfl (by decide) (fun C => rfl) (fun _ _ _ _ h => nomatch h) ?_)
          k_steps
          refine Wait.mk ?_
          rename Fr _ _ _ _ => lF
          rename News _ _ _ _ => lN
          k_dflt (refine lc_enum rfl lF lN x1' ?_ (fun C i m₂ h => ∃ x y, m₂ (Str.ofString "place") = some x ∧ m₂ (Str.ofString "one") = some y ∧ ((∃ t, x = Value.int ((i : Nat) : Int) t) ∧ dvs[i]? = some y)) (fun i ys nw' => nw' = B3 ∧ DatAll [] ys ((faultsTo rs i).map Dat.int)) ⟨rfl, .nil⟩ (fun C => binds_pair (R := fun i x y => (∃ t, x = Value.int ((i : Nat) : Int) t) ∧ dvs[i]? = some y) rfl rfl rfl (by decide) rfl ?_) ?_ ?_)
          · rw [sizeLine_eq]; omega
          · rintro i v h ⟨⟨T, t, x, e1, e2, e3⟩, _⟩
            exact ⟨T, _, x, e1, e3, ⟨t, rfl⟩, e2⟩
          · rintro hB C D i ys nw' h tk m₂ oC led E' hi ⟨rfl, hJ⟩ ⟨x, y, hm1, hm2, ⟨t, rfl⟩, hv⟩ GR
            obtain ⟨r, hr, hd, _⟩ := rd_at b2 hv
            have lF := GR.fr
            have lN := GR.nws
            have lC := GR.frame
            have lO := GR.ns
            have lS := GR.sub
            unfold CTurn tstRun
            dsimp only
            cases r with
            | bad b =>
              obtain ⟨t, rfl⟩ := in_bad_rd hd
              k_steps
              refine CStep.same lF lN GR.sub ⟨rfl, ?_⟩
              rw [faultsTo_bad hr, List.map_append]
              exact hJ.append (.one (.int _ _))
            | ok k v =>
              obtain ⟨T, nT, tx, ty, rfl, hT⟩ := in_ok_rd hd
              have hT' := lS _ (n1 _ hT)
              k_steps
              refine CStep.same lF lN GR.sub ⟨rfl, ?_⟩
              rw [faultsTo_ok hr]
              exact hJ
          · rintro hB D3 ys3 nw3 ⟨rfl, hJ3⟩ off1 off2 h tk lF lN
            rw [hdl] at hJ3
            clear n1 x1' b1 f1 b2 off1 off2
            k_steps
            rw [dec_true _ (congrArg (List.map Dat.int) (faults_same Ix))]
            k_steps
            subst eqk eek
            k_steps
      · refine ⟨li, ld, ts, rs, rows, fs, _, lM_eq rfl rfl rfl rfl rfl, H3.grow (fun q hq => .tail _ (.tail _ (.tail _ hq))), I5, fun q hq hm => ?_⟩
        have h5 := hI q hq
        simp only [List.mem_cons, List.not_mem_nil, or_false] at hm
        rcases hm with e | e | e | e | e <;> rw [e] at h5
        · exact Nat.not_lt.mpr (Nat.le_add_right _ _) h5
        · exact Nat.not_lt.mpr (Nat.le_add_right _ _) h5
        · exact Nat.not_lt.mpr (Nat.le_add_right _ _) h5
        · exact Nat.lt_irrefl _ h5
        · exact Nat.not_lt.mpr (Nat.le_add_right _ _) h5
    · refine ⟨[], [], _, lM_eq rfl rfl rfl rfl rfl, H.grow (fun q hq => .tail _ hq), ⟨.nil, fun x => ?_, .nil, fun y => ?_⟩, fun p hp => ?_⟩
      · simp
      · simp
      · simpa using Nat.ne_of_lt (hI2 p hp)
  · refine ⟨_, _, _, _, [], [], _, lM_eq rfl rfl rfl rfl rfl, ⟨⟨[], 0, by simp, .nil⟩, ⟨[], 0, by simp, .nil⟩, ⟨[], 0, by simp, .nil⟩, ⟨[], 0, by simp, .nil⟩, ?_, ?_, ?_, ?_, Its.nil⟩, rfl, rfl, fun p hp => ?_⟩
    · simp only [List.mem_cons, List.not_mem_nil, or_false, not_or]; exact ⟨by k_ne, by k_ne⟩
    · simp only [List.mem_cons, List.not_mem_nil, or_false, not_or]; exact ⟨by k_ne, by k_ne⟩
    · simp only [List.mem_cons, List.not_mem_nil, or_false, not_or]; k_ne
    · simp
    · simpa using Nat.ne_of_lt (hI p hp)
end Mine
end
set_option maxRecDepth 100000 in
set_option maxHeartbeats 8000000 in
theorem PySem.Challenge.cw_pg0107_01_holds : PySem.Challenge.rw_pg0107_01.Holds := by
  exact Mine.law_holds
