import PyProof.Rows.All
import Wide.All
import OpenK.AllK
import Wide.FinOn
import PySem.Challenge.RW_dm5011_01
set_option Elab.async false
-- the walk keeps a clock of its own; one file holds many walks
set_option rowWalk.seconds 0

/- text Hd -/
section
open PySem PySem.W PyProof.Rows
namespace Mine
set_option maxRecDepth 100000 in
set_option maxHeartbeats 8000000 in
open_top hd for PySem.Challenge.rw_dm5011_01
end Mine
end

/- text B0 -/
section
open PySem PySem.W PyProof.Rows PySem.Calls PyProof.V
set_option maxRecDepth 100000
namespace Mine

section
variable {prog : Program} {w : World} {A₀ A : Around} {s : Shared} {base h₀ : Heap} {outer : List Env} {L : Addr} {m : Str → Option Value} {env : Env} {K : Frag} {p : Program} {loose : List Str} {mean : ExcName → Option Value} {mg mb : Str → Option Value}
  {R : Result → Shared → Prop} {name qual : Str} {params : Arguments} {body : List Stmt} {scope : Scope} {dV kV doc pm cdv ct oc : Value} {an od : Option Addr} {osl : Array (Option Value)} {f : Addr} {args : Args} {binds : List (Str × Value)}

/-- what a def's end must show: all that stood when it was called stands -/
def LeaveS (g : Heap) (R : Value → Shared → Prop) (v : Value) (s' : Shared) : Prop := g.StaysIn s'.heap → R v s'
theorem leaveS {g : Heap} {R : Value → Shared → Prop} {v : Value} {s' : Shared} (h : g.StaysIn s'.heap → R v s') : LeaveS g R v s' := h

theorem callS (B : Below A₀ base outer h₀) (F : Fr h₀ L s.heap m) (X₀ : K.In h₀) (T : Top p loose mean mg mb h₀) (hA : A.frames = some (env :: outer)) (hf : env.frame = some L) (hke : env.scope.kind = .function)
    (ho : K.lookup f = some ⟨oc, od, .func (fnOf name qual params body scope dV kV doc pm an cdv ct), osl⟩) (hcd : codeIn K cdv qual = true) (hroom : A.depth < recursionLimit)
    (hbind : BindsTo s (fnOf name qual params body scope dV kV doc pm an cdv ct) args binds) (hloc : ∀ y ∈ binds, scope.names.lookup y.1 = some .local)
    (h : ∀ L' h₁, Fr s.heap L' h₁ (fun y => binds.reverse.lookup y) → @LE.le Nat _ s.heap.objs.size L' → News s.heap L' h₁ [] → Below A base (env :: outer) s.heap → K.In s.heap → Top p loose mean mg mb s.heap →
      wpAny (model prog w) (A.deeper (envOf qual scope L' f cdv)) (execs body (envOf qual scope L' f cdv))
        (fun fl s' => R (.ok (.ret (match fl with | .ret v => v | _ => .none))) s')
        (fun e s' => wpAny (model prog w) (A.deeper (envOf qual scope L' f cdv)) (leaving (envOf qual scope L' f cdv) e) (fun _ s'' => R (.error e) s'') (fun e' s'' => R (.error e') s'') s')
        { s with heap := h₁, toks := s.toks + binds.length })
    (hcell : ∀ x ∈ scope.names, x.2 ≠ .cell) (hco : scope.isCoroutine = false := by rfl) (hgen : scope.isGenerator = false := by rfl) (hk : scope.kind = .function := by rfl) : codeAny (model prog w) A (.call (.ref f) args) R s := by
  have B₁ := pushX B F hf hke
  have BG : Below A base (env :: outer) s.heap := ⟨hA, B₁.stays, B₁.frames⟩
  refine codeAny_call_def (fd := fnOf name qual params body scope dV kV doc pm an cdv ct) (body := body) (binds := binds) hroom ((X₀.keeps F.keep) _ _ ho) rfl (T.nolimit.keeps F.keep) (codeRec_of (X₀.keeps F.keep) hcd) rfl hbind hcell hloc (fun h₁ hns hk₁ => ?_) hco hgen hk
  exact h s.heap.objs.size h₁ ⟨hns, fun b o e => hk₁ b o e, Nat.le_refl _⟩ (Nat.le_refl _) News.nil BG (X₀.keeps F.keep) (T.keeps F.keep)

theorem callSC (B : Below A₀ base outer h₀) (F : Fr h₀ L s.heap m) (X₀ : K.In h₀) (T : Top p loose mean mg mb h₀) (hA : A.frames = some (env :: outer)) (hf : env.frame = some L) (hke : env.scope.kind = .function)
    (ho : K.lookup f = some ⟨oc, od, .func (fnOf name qual params body scope dV kV doc pm an cdv ct), osl⟩) (hcd : codeIn K cdv qual = true) (hroom : A.depth < recursionLimit)
    (hbind : BindsTo s (fnOf name qual params body scope dV kV doc pm an cdv ct) args binds) (hkind : (binds.all fun y => scope.names.lookup y.1 == some .local || scope.names.lookup y.1 == some .cell) = true)
    (hnd : ((cellsFrom 0 scope.names []).map (·.1)).Nodup)
    (h : ∀ L' h₁ tk cells, Fr s.heap L' h₁ (bindL (envOfC qual scope L' f cdv).kindOf binds fun _ => none) → @LE.le Nat _ s.heap.objs.size L' → News s.heap L' h₁ cells →
      CellsAre (bindC (envOfC qual scope L' f cdv).kindOf binds fun _ => none) (cellsFrom (L' + 1) scope.names []) cells → Below A base (env :: outer) s.heap → K.In s.heap → Top p loose mean mg mb s.heap →
      wpAny (model prog w) (A.deeper (envOfC qual scope L' f cdv)) (execs body (envOfC qual scope L' f cdv))
        (fun fl s' => R (.ok (.ret (match fl with | .ret v => v | _ => .none))) s')
        (fun e s' => wpAny (model prog w) (A.deeper (envOfC qual scope L' f cdv)) (leaving (envOfC qual scope L' f cdv) e) (fun _ s'' => R (.error e) s'') (fun e' s'' => R (.error e') s'') s')
        { s with heap := h₁, toks := tk })
    (hco : scope.isCoroutine = false := by rfl) (hgen : scope.isGenerator = false := by rfl) (hk : scope.kind = .function := by rfl) : codeAny (model prog w) A (.call (.ref f) args) R s := by
  have B₁ := pushX B F hf hke
  have BG : Below A base (env :: outer) s.heap := ⟨hA, B₁.stays, B₁.frames⟩
  refine codeAny_call_function hroom ((X₀.keeps F.keep) _ _ ho) rfl hco hgen rfl (codeRec_of (X₀.keeps F.keep) hcd) (hbind _ _ _ _ ?_)
  refine wpAny_newFunctionEnv_cells hk (kindsX hkind _) fun env' he s' x => ?_
  subst he
  refine ⟨((T.nolimit).keeps F.keep).keeps x.toInCall.keep, codeAny_func ?_⟩
  obtain ⟨h₁, tk, rfl, _⟩ := x.done
  have hk₁ := x.toInCall.keep
  obtain ⟨cells, NC, Y⟩ := Cl.news (h₀ := s.heap) (Nat.le_refl _) fun n c hm => ⟨x.cell n c (lookup_of_mem_nodup (cellsFrom_names scope.names 0 (s.heap.objs.size + 1) [] [] rfl ▸ hnd) hm), x.above n c hm⟩
  exact h s.heap.objs.size h₁ tk cells ⟨x.toInCall.ns, fun b o e => hk₁ b o e, Nat.le_refl _⟩ (Nat.le_refl _) NC Y BG (X₀.keeps F.keep) (T.keeps F.keep)
end
end Mine
end

/- text B1 -/
section
open PySem PySem.W PyProof.Rows PySem.Calls PyProof.V PySem.Spec
set_option maxRecDepth 100000
namespace Mine

noncomputable abbrev PV : Program := Mine.hd.view_39
noncomputable abbrev PL : List Str := looseW Mine.hd.view_39 [Str.ofString "Counter"]
noncomputable abbrev PP : Program := PySem.Challenge.rw_dm5011_01.row.prog

def tally (ns : List Int) : List (Int × Int) := ns.foldl (fun c n => kdfPut c n (kdfLook c n 0 + 1)) []

theorem kfold_len (ns : List Int) : ∀ c : List (Int × Int), (ns.foldl (fun c n => kdfPut c n (kdfLook c n 0 + 1)) c).length ≤ c.length + ns.length := by
  induction ns with
  | nil => intro c; simp
  | cons n ns ih =>
    intro c
    have h1 := ih (kdfPut c n (kdfLook c n 0 + 1))
    have h2 := kdfPut_len c n (kdfLook c n 0 + 1)
    simp only [List.foldl_cons, List.length_cons]
    omega
theorem tally_len (ns : List Int) : (tally ns).length ≤ ns.length := by
  have h := kfold_len ns []
  simpa [tally] using h

theorem newDict_KL {prog : Program} {w : World} {A : Around} {E : Value → Shared → Prop} {s : Shared} {h₀ : Heap} {L : Addr} {m : Str → Option Value} {news : List (Addr × Obj)} {env : Env} {pos : Pos} {Q : Value → Shared → Prop} (F : Fr h₀ L s.heap m) (N : News h₀ L s.heap news) (hbig : h₀.NoLimit)
    (k : ∀ d h' o, Fr h₀ L h' m → News h₀ L h' ((d, o) :: news) → (∀ p ∈ (L, o) :: news, p.1 < d) → (d == sysModules) = false → o.IsDictOf (strKind prog w) [] → FlatPairs PyData.str [] [] →
      o.IsDictOf (intKind prog w) [] → FlatPairs PyData.int [] [] → Q (.ref d) { s with heap := h' }) : wpAny (model prog w) A (eval (.Dict [] [] pos) env) Q E s :=
  Dict_empty_made2 F N (modules_low hbig) fun h' o F' N' lo a b c e _ => k _ h' o F' N' (fun p hp => by
    rcases List.mem_cons.mp hp with rfl | hp
    · obtain ⟨oL, _, _, hL, _⟩ := F.ns
      exact Heap.lt_size hL
    · exact Heap.lt_size (N p hp).1) lo a b c e

local macro_rules | `(tactic| walk_at "eval Dict nil nil") => `(tactic| (k_here; k_dflt (refine' newDict_KL ?k1 ?k2 (TopRead.nolimit (by k_asm)) ?_; (case k1 => k_asm); (case k2 => k_asm); k_whole); intro d' h' o' F' N' l1 lo' hs' fs' hi' fi'; (try k_lt l1); (try k_sweep)))

local macro_rules | `(tactic| k_enter) => `(tactic| (refine' callS ?k1 ?k2 ?k3 ?k5 ?kA ?kF ?kK ?k6 ?k7 ?k8 ?k9 ?kB ?_ ?c2 ?c3 ?c4 ?c5; (case kA => exact rfl); (case kF => exact rfl); (case kK => assumption); (case k1 => k_asm); (case k2 => k_asm); (case k3 => k_asm); (case k5 => k_asm); (case k6 => k_is); (case k7 => k_is); (case k8 => ktr_room); (case k9 => exact BindsTo.of_eq rfl); (case c5 => exact rfl); (case kB => exact locs rfl); (case c2 => decide); (case c3 => exact rfl); (case c4 => exact rfl); k_whole; intro L' h' F' eL' N' B' X' T'; (try dsimp only); (try k_fold)))

set_option maxHeartbeats 4000000 in
theorem times_call {w : World} {mean : ExcName → Option Value} {mg mb : Str → Option Value} {dp un : Nat} {gd : Option (List Code)} {cn : Str} {cs : Scope} {a : Addr} {ccd : Value} {cl : List (Str × Addr)} {outer : List Env} {A₀ : Around} {base h₀ : Heap} {L : Addr} {m : Str → Option Value} {s : Shared} {Q E : Value → Shared → Prop}
    {l : Addr} {vs : List Value} {ns : List Int}
    (B : Below A₀ base outer h₀) (F : Fr h₀ L s.heap m) (X : (Mine.hd.heap_39 w.params).In h₀) (T : Top PV PL mean mg mb h₀) (hk : cs.kind = .function)
    (hl : s.heap.IsList l vs.toArray) (hi : IntsAre vs ns) (hn : ns.length ≤ 1024) (hd : dp + 20 < recursionLimit) (hu : un + 200 < cLine)
    (ret : ∀ d o kvs h' tk', s.heap.StaysIn h' → s.heap.objs.size < d → h'.get? d = some o → s.heap.get? d = none → (d == sysModules) = false → o.IsDictOf (intKind PP w) kvs → FlatPairs PyData.int kvs (kdfD (tally ns)) →
      Q (.ref d) { s with heap := h', toks := tk' }) :
    wpAny (model PP w) (ktrTop dp un gd cn cs L a ccd cl outer) (call (.ref 309) [.ref l]) Q E s := by
  w_top off
  have : PySem.Challenge.rw_dm5011_01 = PySem.Challenge.rw_dm5011_01 ∧ Mine.hd.heap_39 = Mine.hd.heap_39 := by k_fill; exact ⟨rfl, rfl⟩
  clear this
  refine wpAny_call ?_
  k_dflt k_enter
  k_steps
  all_goals (
    dsimp only
    refine ret _ _ _ _ _ (fun b o e => Fr.keep (by assumption) b o e) ?_ (News.get (by assumption) (.head _)) (News.fresh (by assumption) (.head _)) (by assumption) (by assumption) (by assumption)
    omega)
end Mine
end

/- text Ldef -/
section
open PySem PySem.W PyProof.Rows PySem.Calls PyProof.V PySem.Spec
set_option maxRecDepth 100000
namespace Mine
noncomputable def lawDef : Stmt := PySem.Challenge.pw_dm5011_01.main.body.getLast!
noncomputable def lawBody : List Stmt := match lawDef with | .FunctionDef _ _ body .. => body | _ => []
noncomputable def lawScope : Scope := match lawDef with | .FunctionDef _ _ _ _ _ _ sc .. => sc | _ => default
noncomputable abbrev lawEnv (L fa : Addr) (cd : Value) : Env := envOfC (Str.ofString "law") lawScope L fa cd
noncomputable abbrev lawM0 (L fa : Addr) (cd v : Value) : Str → Option Value := bindL (lawEnv L fa cd).kindOf [(Str.ofString "script", v)] fun _ => none
noncomputable def lawSt (i : Nat) : Stmt := lawBody[i]!
noncomputable def lawFrom (i : Nat) : List Stmt := lawBody.drop i
theorem drop_st {l : List Stmt} {i : Nat} (h : i < l.length) : l.drop i = l[i]! :: l.drop (i + 1) := by
  rw [List.drop_eq_getElem_cons h, getElem!_pos l i h]
theorem law_len : lawBody.length = 20 := by decide +kernel
theorem law_drop (i : Nat) (h : i < 20) : lawFrom i = lawSt i :: lawFrom (i + 1) := drop_st (law_len ▸ h)
end Mine
end

/- text L1 -/
section
open PySem PySem.W PyProof.Rows PySem.Calls PyProof.V PySem.Spec
set_option maxRecDepth 100000
namespace Mine
abbrev lawTail : List Int := [2, -1, 3, 1, -2, 4, -1, 1, 5]
set_option maxHeartbeats 4000000 in
theorem law1 {w : World} {mean : ExcName → Option Value} {mg mb : Str → Option Value} {A : Around} {base h₀ : Heap} {L fa : Addr} {cd : Value} {s : Shared} {Q : Flow → Shared → Prop} {E : Value → Shared → Prop} {l : Addr} {vs : List Value} {ns : List Int} {c1 c2 c3 c4 c5 c6 : Obj}
    (B : Below A base [] h₀) (F : Fr h₀ L s.heap (lawM0 L fa cd (.ref l))) (X : (Mine.hd.heap_39 w.params).In h₀) (T : Top PV PL mean mg mb h₀)
    (hh : A.handled = none) (hd : A.depth + 200 < recursionLimit)
    (N : News h₀ L s.heap [(L + 6, c6), (L + 5, c5), (L + 4, c4), (L + 3, c3), (L + 2, c2), (L + 1, c1)])
    (hl : h₀.IsList l vs.toArray) (hi : IntsAre vs ns) (hn : vs.length ≤ 63)
    (k : ∀ h tk r e rv, Fr h₀ L h (fun y => if y = Str.ofString "row" then some (.ref r) else lawM0 L fa cd (.ref l) y) → News h₀ L h [(r, listOf rv.toArray e), (L + 6, c6), (L + 5, c5), (L + 4, c4), (L + 3, c3), (L + 2, c2), (L + 1, c1)] → IntsAre rv (ns ++ lawTail) →
      wpAny (model PP w) (A.deeper (lawEnv L fa cd)) (execs (lawFrom 1) (lawEnv L fa cd)) Q E { s with heap := h, toks := tk }) :
    wpAny (model PP w) (A.deeper (lawEnv L fa cd)) (execs (lawFrom 0) (lawEnv L fa cd)) Q E s := by
  w_top off
  have : PySem.Challenge.rw_dm5011_01 = PySem.Challenge.rw_dm5011_01 ∧ Mine.hd.heap_39 = Mine.hd.heap_39 := by k_fill; exact ⟨rfl, rfl⟩
  clear this
  have hB : lawSt 0 = lawSt 0 := rfl
  conv at hB => rhs; whnf
  have hS : lawScope = lawScope := rfl
  conv at hS => rhs; whnf
  rw [law_drop 0 (by decide), hB]
  generalize lawFrom 1 = rest at k ⊢
  unfold lawM0 lawEnv at *
  simp only [hS] at F ⊢
  clear hB
  obtain ⟨tv, ht, hti⟩ : ∃ tv : List Value, IsTup h₀ 302 tv.toArray ∧ IntsAre tv lawTail := by
    refine ⟨_, ⟨_, X 302 _ (by k_is), rfl, _, rfl⟩, ?_⟩
    exact .cons _ _ (.cons _ _ (.cons _ _ (.cons _ _ (.cons _ _ (.cons _ _ (.cons _ _ (.cons _ _ (.cons _ _ .nil))))))))
  have htl : tv.length = 9 := hti.length
  k_steps
  rename_i h1 F1 N1
  refine k h1 _ _ 0 (vs ++ tv) F1 (fun q hq => ?_) (hi.append hti)
  · rcases List.mem_cons.mp hq with rfl | hq
    · exact N1 _ (.head _)
    · exact N1 _ (.tail _ (.tail _ (.tail _ hq)))
end Mine
end

/- text L2 -/
section
open PySem PySem.W PyProof.Rows PySem.Calls PyProof.V PySem.Spec
set_option maxRecDepth 100000
namespace Mine
set_option maxHeartbeats 4000000 in
theorem law2 {w : World} {mean : ExcName → Option Value} {mg mb : Str → Option Value} {A : Around} {base h₀ : Heap} {L fa : Addr} {cd : Value} {s : Shared} {Q : Flow → Shared → Prop} {E : Value → Shared → Prop} {l r : Addr} {vs rv : List Value} {ns rs : List Int} {e1 : Nat} {c1 c2 c3 c4 c5 c6 : Obj}
    (B : Below A base [] h₀) (F : Fr h₀ L s.heap (fun y => if y = Str.ofString "row" then some (.ref r) else lawM0 L fa cd (.ref l) y)) (X : (Mine.hd.heap_39 w.params).In h₀) (T : Top PV PL mean mg mb h₀)
    (hh : A.handled = none) (hd : A.depth + 200 < recursionLimit)
    (N : News h₀ L s.heap [(r, listOf rv.toArray e1), (L + 6, c6), (L + 5, c5), (L + 4, c4), (L + 3, c3), (L + 2, c2), (L + 1, c1)])
    (hl : h₀.IsList l vs.toArray) (hi : IntsAre vs ns) (hn : vs.length ≤ 63) (hr : IntsAre rv rs) (hrl : rv.length = vs.length + 9)
    (k : ∀ h tk nb t1 t2 t3 kd sz, (@LT.lt Nat _ (r) nb ∧ @LT.lt Nat _ (L + 6) nb ∧ @LT.lt Nat _ (L + 5) nb ∧ @LT.lt Nat _ (L + 4) nb ∧ @LT.lt Nat _ (L + 3) nb ∧ @LT.lt Nat _ (L + 2) nb ∧ @LT.lt Nat _ (L + 1) nb) → 0 ≤ kd → kd < 3 → 1 ≤ sz → sz ≤ 9 → Fr h₀ L h (fun y => if y = Str.ofString "numbers" then some (.ref nb) else if y = Str.ofString "size" then some (.int sz t3) else if y = Str.ofString "kind" then some (.int kd t2) else if y = Str.ofString "n" then some (.int (1 + (ns.length : Int).fmod 7) t1) else if y = Str.ofString "row" then some (.ref r) else lawM0 L fa cd (.ref l) y) →
      News h₀ L h [(nb, listOf #[] 0), (r, listOf rv.toArray e1), (L + 6, c6), (L + 5, c5), (L + 4, c4), (L + 3, c3), (L + 2, c2), (L + 1, c1)] →
      wpAny (model PP w) (A.deeper (lawEnv L fa cd)) (execs (lawFrom 5) (lawEnv L fa cd)) Q E { s with heap := h, toks := tk }) :
    wpAny (model PP w) (A.deeper (lawEnv L fa cd)) (execs (lawFrom 1) (lawEnv L fa cd)) Q E s := by
  w_top off
  have : PySem.Challenge.rw_dm5011_01 = PySem.Challenge.rw_dm5011_01 ∧ Mine.hd.heap_39 = Mine.hd.heap_39 := by k_fill; exact ⟨rfl, rfl⟩
  clear this
  have hB1 : lawSt 1 = lawSt 1 := rfl
  conv at hB1 => rhs; whnf
  have hB2 : lawSt 2 = lawSt 2 := rfl
  conv at hB2 => rhs; whnf
  have hB3 : lawSt 3 = lawSt 3 := rfl
  conv at hB3 => rhs; whnf
  have hB4 : lawSt 4 = lawSt 4 := rfl
  conv at hB4 => rhs; whnf
  have hS : lawScope = lawScope := rfl
  conv at hS => rhs; whnf
  rw [law_drop 1 (by decide), law_drop 2 (by decide), law_drop 3 (by decide), law_drop 4 (by decide), hB1, hB2, hB3, hB4]
  generalize lawFrom 5 = rest at k ⊢
  unfold lawM0 lawEnv at *
  simp only [hS] at F ⊢
  clear hB1 hB2 hB3 hB4
  have hvl : vs.length = ns.length := hi.length
  k_steps
  rename_i h1 F1 N1 hl1 hi1
  refine LSm.sum_ints F1 N1 hh hl1 hi1 fun h2 tk2 t2 F2 N2 => ?_
  clear F1 N1 hl1 hi1
  k_steps
  rename_i hl1 h3 F3 N3
  dsimp only
  have b1 := Int.fmod_nonneg_of_pos rs.sum (b := 3) (by decide)
  have b2 := Int.fmod_lt_of_pos rs.sum (b := 3) (by decide)
  generalize hab : (if rs.getD (Int.toNat 0) 0 < 0 then -rs.getD (Int.toNat 0) 0 else rs.getD (Int.toNat 0) 0) = ab at F3
  have b3 := Int.fmod_nonneg_of_pos ab (b := 9) (by decide)
  have b4 := Int.fmod_lt_of_pos ab (b := 9) (by decide)
  exact k _ _ _ _ _ _ _ _ hl1 b1 b2 (by omega) (by omega) F3 N3
end Mine
end

/- text L3a -/
section
open PySem PySem.W PyProof.Rows PySem.Calls PyProof.V PySem.Spec
set_option maxRecDepth 100000
namespace Mine
section
variable {prog : Program} {w : World} {A : Around} {h₀ : Heap} {m : Str → Option Value} {env : Env} {E : Value → Shared → Prop} {s : Shared} {news : List (Addr × Obj)}
theorem small_n {n : Nat} (h : n ≤ 4096) : Builtin.Range.small 0 (n : Int) 1 = true := small_one (by omega) (by omega) (by omega) (by omega)
/-- append to a list of the ledger's head -/
theorem append_N {L D : Addr} {us : List Value} {e : Nat} {v : Value} {Q : Value → Shared → Prop} (F : Fr h₀ L s.heap m) (N : News h₀ L s.heap ((D, listOf us.toArray e) :: news)) (ne : ∀ p ∈ news, p.1 ≠ D) (hsz : us.length ≤ 65536)
    (h : ∀ h', Fr h₀ L h' m → News h₀ L h' ((D, listOf (us ++ [v]).toArray (e + 1)) :: news) → Q .none { s with heap := h' }) : wpAny (model prog w) A (call (.builtin "list.append") [.ref D, v]) Q E s := by
  have hD := N _ (.head _)
  refine append_at hD.1 (fun h' hs hD' => ?_) (by rw [List.size_toArray, sizeLine_eq]; omega)
  rw [List.push_toArray] at hD'
  refine h h' (F.change hs hD.2.1 hD.2.2) fun q hq => ?_
  rcases List.mem_cons.mp hq with rfl | hq
  · exact ⟨hD', hD.2⟩
  · exact ⟨hs.extBut _ _ (ne q hq) (N q (.tail _ hq)).1, (N q (.tail _ hq)).2⟩
/-- for x in range(n): what holds between the turns, by the turn's number -/
theorem range_loop {x : Str} {body : List Stmt} {Q : Flow → Shared → Prop} {rg : Addr} {n : Nat} {t₀ u₀ v₀ : Tok} (J : Nat → (Str → Option Value) → List (Addr × Obj) → Prop)
    (hh : A.handled = none) (hr : IsRange s.heap rg 0 n 1 t₀ u₀ v₀) (hn : n ≤ 4096) (F : Fr h₀ env.locals s.heap m) (N : News h₀ env.locals s.heap news) (h0 : J 0 m news)
    (turn : ∀ (i : Nat) t m₁ news₁ h tk I o (Q' : Flow → Shared → Prop), i < n → J i m₁ news₁ → (∀ p ∈ news₁, p.1 ≠ I) → Fr h₀ env.locals h (fun y => if y = x then some (.int i t) else m₁ y) → News h₀ env.locals h (news₁ ++ [(I, o)]) →
      (∀ h' tk' m₂ news₂, Fr h₀ env.locals h' m₂ → News h₀ env.locals h' (news₂ ++ [(I, o)]) → (∀ p ∈ news₂, p.1 ≠ I) → J (i + 1) m₂ news₂ → Q' .next { s with heap := h', toks := tk' }) →
      wpAny (model prog w) A (execs body env) Q' E { s with heap := h, toks := tk })
    (done : ∀ h' tk' m' news', Fr h₀ env.locals h' m' → News h₀ env.locals h' news' → J n m' news' → Q .next { s with heap := h', toks := tk' }) :
    wpAny (model prog w) A (pyIter (.ref rg)) (fun it s₂ => LoopAtV prog w A h₀ env x body Q E it s₂) E s := by
  refine wpAny_pyIter_range hr (small_n hn) ?_
  have hI := kdx_fresh F (x := s.heap.objs.size) (Nat.le_refl _)
  refine ⟨s.heap.objs.size, [s.heap.objs.size], [s.heap.objs.size], n, _, _, m, news, J, rfl, Walks.range hh _ 0 1 n, fun z => hI.1 (List.mem_singleton.mp z).symm, ?_, ?_, ?_, F.push _, N.grown fun b o e => Heap.get?_push_of_some _ e, h0, ?_, ?_⟩
  · intro b hb; rw [List.mem_singleton.mp hb]; exact hI.2
  · intro p hp z
    have := Heap.lt_size (N p hp).1
    rw [List.mem_singleton.mp z] at this
    exact Nat.lt_irrefl _ this
  · show IsRangeIter _ _ _ _ _
    have hsz : Builtin.Range.rangeSize 0 (n : Int) 1 = (n : Int) := by
      have := rangeSize_nat 0 (n : Int)
      simpa using this
    have e1 : (0 : Int) + ((0 : Nat) : Int) * 1 = 0 := by decide
    have e2 : (n : Int) - ((0 : Nat) : Int) = n := by simp
    rw [e1, e2]
    have := Heap.get?_push_size s.heap (o := { cls := .type "range_iterator", data := .fields #[rawInt 0, rawInt (Builtin.Range.rangeSize 0 n 1), rawInt 1] }) rfl
    rw [hsz] at this ⊢
    exact this
  · rintro i v m₁ news₁ s₁ own ⟨h, tk, rfl⟩ hi ⟨t, rfl⟩ hJ hnw ho1 ho2 ho3 hst F₁ N₁
    have ev : (0 : Int) + (i : Int) * 1 = i := by omega
    rw [ev] at F₁
    have hst' : h.get? s.heap.objs.size = some _ := hst
    have hN : News h₀ env.locals h (news₁ ++ [(s.heap.objs.size, _)]) := fun q hq => by
      rcases List.mem_append.mp hq with hq | hq
      · exact N₁ q (List.mem_append_right _ hq)
      · obtain rfl := List.mem_singleton.mp hq
        exact ⟨hst', hI⟩
    refine turn i t m₁ news₁ h tk s.heap.objs.size _ _ hi hJ (fun p hp z => hnw p hp (List.mem_singleton.mpr z)) F₁ hN ?_
    intro h' tk' m₂ news₂ F₂ N₂ ne hJ₂
    refine LoopStepU.intro F₂ (fun q hq => ?_) (fun p hp z => ne p hp (List.mem_singleton.mp z)) hJ₂
    rcases List.mem_append.mp hq with hq | hq
    · have e1 := List.mem_singleton.mp (ho1 q hq)
      have e2 := ho2 q hq
      rw [e1] at e2
      have e3 := hst'.symm.trans e2
      obtain ⟨q1, q2⟩ := q
      simp only at e1 e3
      subst e1
      obtain rfl := Option.some.inj e3
      exact N₂ _ (List.mem_append_right _ (.head _))
    · exact N₂ q (List.mem_append_left _ hq)
  · rintro h' tk' m' news' F' N' _ hJ'
    exact done h' tk' m' news' F' N' hJ'
end
end Mine
end

/- text L3 -/
section
open PySem PySem.W PyProof.Rows PySem.Calls PyProof.V PySem.Spec
set_option maxRecDepth 100000
namespace Mine
def Bnd (n : Nat) : Prop := n ≤ 7
/-- the law's numbers -/
def numOf (kd sz : Int) (rs : List Int) (i : Nat) : Int :=
  if kd = 0 then (if (rs.getD i 0).fmod 2 = 0 then sz else -sz) else if kd = 1 then (if (rs.getD i 0).fmod 7 ≠ 3 then (rs.getD i 0).fmod 7 - 3 else 1) else (if rs.getD i 0 ≠ 0 then rs.getD i 0 else 1)
set_option maxHeartbeats 4000000 in
theorem law3 {w : World} {mean : ExcName → Option Value} {mg mb : Str → Option Value} {A : Around} {base h₀ : Heap} {L fa : Addr} {cd : Value} {s : Shared} {Q : Flow → Shared → Prop} {l r nb : Addr} {rv : List Value} {rs : List Int} {e1 : Nat} {c1 c2 c3 c4 c5 c6 : Obj}
    {t1 t2 t3 : Tok} {n : Nat} {kd sz : Int}
    (B : Below A base [] h₀) (F : Fr h₀ L s.heap (fun y => if y = Str.ofString "numbers" then some (.ref nb) else if y = Str.ofString "size" then some (.int sz t3) else if y = Str.ofString "kind" then some (.int kd t2) else if y = Str.ofString "n" then some (.int (n : Int) t1) else if y = Str.ofString "row" then some (.ref r) else lawM0 L fa cd (.ref l) y)) (X : (Mine.hd.heap_39 w.params).In h₀) (T : Top PV PL mean mg mb h₀)
    (hh : A.handled = none) (hd : A.depth + 200 < recursionLimit)
    (N : News h₀ L s.heap [(nb, listOf #[] 0), (r, listOf rv.toArray e1), (L + 6, c6), (L + 5, c5), (L + 4, c4), (L + 3, c3), (L + 2, c2), (L + 1, c1)])
    (l1 : @LT.lt Nat _ (r) nb ∧ @LT.lt Nat _ (L + 6) nb ∧ @LT.lt Nat _ (L + 5) nb ∧ @LT.lt Nat _ (L + 4) nb ∧ @LT.lt Nat _ (L + 3) nb ∧ @LT.lt Nat _ (L + 2) nb ∧ @LT.lt Nat _ (L + 1) nb)
    (hr : IntsAre rv rs) (hrl : 9 ≤ rv.length) (hnb : Bnd n) (hk1 : 0 ≤ kd) (hk2 : kd < 3) (hs1 : 1 ≤ sz) (hs2 : sz ≤ 9)
    (k : ∀ h tk pi us e, Fr h₀ L h (fun y => if y = Str.ofString "i" then pi else if y = Str.ofString "numbers" then some (.ref nb) else if y = Str.ofString "size" then some (.int sz t3) else if y = Str.ofString "kind" then some (.int kd t2) else if y = Str.ofString "n" then some (.int (n : Int) t1) else if y = Str.ofString "row" then some (.ref r) else lawM0 L fa cd (.ref l) y) →
      News h₀ L h [(nb, listOf us.toArray e), (L + 6, c6), (L + 5, c5), (L + 4, c4), (L + 3, c3), (L + 2, c2), (L + 1, c1)] → IntsAre us ((List.range n).map (numOf kd sz rs)) →
      wpAny (model PP w) (A.deeper (lawEnv L fa cd)) (execs (lawFrom 6) (lawEnv L fa cd)) Q (fun _ _ => False) { s with heap := h, toks := tk }) :
    wpAny (model PP w) (A.deeper (lawEnv L fa cd)) (execs (lawFrom 5) (lawEnv L fa cd)) Q (fun _ _ => False) s := by
  w_top off
  have : PySem.Challenge.rw_dm5011_01 = PySem.Challenge.rw_dm5011_01 ∧ Mine.hd.heap_39 = Mine.hd.heap_39 := by k_fill; exact ⟨rfl, rfl⟩
  clear this
  have hB1 : lawSt 5 = lawSt 5 := rfl
  conv at hB1 => rhs; whnf
  have hS : lawScope = lawScope := rfl
  conv at hS => rhs; whnf
  rw [law_drop 5 (by decide), hB1]
  generalize lawFrom 6 = rest at k ⊢
  unfold lawM0 lawEnv at *
  simp only [hS] at F ⊢
  clear hB1


  k_steps
  rename_i h1 tk1 ta tb tc hrg F1 N1 _
  obtain ⟨m1, hm1, F1a⟩ : ∃ m1 : Str → Option Value, m1 = _ ∧ Fr h₀ L h1 m1 := ⟨_, rfl, F1⟩
  clear F1
  refine range_loop (fun i m' news' => ∃ pi us e, m' = (fun y => if y = Str.ofString "i" then pi else m1 y) ∧ news' = (nb, listOf us.toArray e) :: [(r, listOf rv.toArray e1), (L + 6, c6), (L + 5, c5), (L + 4, c4), (L + 3, c3), (L + 2, c2), (L + 1, c1)] ∧ us.length = i ∧ IntsAre us ((List.range i).map (numOf kd sz rs))) hh hrg (by unfold Bnd at hnb; omega) F1a N1 ⟨m1 (Str.ofString "i"), [], 0, ?_, rfl, rfl, .nil⟩ ?_ ?_
  · funext y; by_cases q : y = Str.ofString "i" <;> simp [q]
  · rintro i t m₁ news₁ h tk I o Q' hi ⟨pi, us, e, rfl, rfl, hul, hus⟩ hne F2 N2 next
    subst hm1
    clear N1 F1a hrg
    have hIn : nb ≠ I := hne _ (.head _)
    have hIr : r ≠ I := hne _ (.tail _ (.head _))
    have hi7 : i < 7 := by unfold Bnd at hnb; omega
    have hi0 : (0 : Int) ≤ (i : Int) := Int.natCast_nonneg i
    have hlen : rv.length = rs.length := hr.length
    have ne : ∀ p ∈ [(r, listOf rv.toArray e1), (L + 6, c6), (L + 5, c5), (L + 4, c4), (L + 3, c3), (L + 2, c2), (L + 1, c1)] ++ [(I, o)], p.1 ≠ nb := by
      intro p hp
      simp only [List.cons_append, List.nil_append, List.mem_cons, List.not_mem_nil, or_false] at hp
      rcases hp with rfl | rfl | rfl | rfl | rfl | rfl | rfl | rfl
      · exact Nat.ne_of_lt l1.1
      · exact Nat.ne_of_lt l1.2.1
      · exact Nat.ne_of_lt l1.2.2.1
      · exact Nat.ne_of_lt l1.2.2.2.1
      · exact Nat.ne_of_lt l1.2.2.2.2.1
      · exact Nat.ne_of_lt l1.2.2.2.2.2.1
      · exact Nat.ne_of_lt l1.2.2.2.2.2.2
      · exact hIn.symm
    have app : ∀ (v : Int) (tv : Tok) (tk : Nat) (Q'' : Value → Shared → Prop) (E'' : Value → Shared → Prop), v = numOf kd sz rs i → (∀ h', (∀ tk', Q' .next { s with heap := h', toks := tk' }) → Q'' .none { s with heap := h', toks := tk }) → wpAny (model PP w) (A.deeper (envOfC (Str.ofString "law") lawScope L fa cd)) (call (.builtin "list.append") [.ref nb, .int v tv]) Q'' E'' { s with heap := h, toks := tk } := by
      rintro v tv tk Q'' E'' rfl q
      refine append_N F2 N2 ne (by omega) fun h' F3 N3 => q h' fun tk' => ?_
      refine next h' tk' _ _ F3 N3 (fun p hp => ?_) ⟨some (.int i t), us ++ [.int (numOf kd sz rs i) tv], e + 1, ?_, rfl, by simp [hul], ?_⟩
      · rcases List.mem_cons.mp hp with rfl | hp
        · exact hIn
        · exact hne p (.tail _ hp)
      · funext y; by_cases q : y = Str.ofString "i" <;> simp [q]
      · rw [List.range_succ, List.map_append]
        exact hus.append (.cons _ _ .nil)
    rw [hS] at app
    have hti : ((i : Int)).toNat = i := Int.toNat_natCast i
    k_steps
    all_goals (rw [hti] at *; refine app _ _ _ _ _ ?_ fun h' fin => ?_)
    all_goals first
      | (show (_ : Int) = numOf kd sz rs i; unfold numOf; (repeat' split) <;> first | rfl | contradiction | omega)
      | (k_steps; exact fin _)
  · rintro h' tk' m' news' F2 N2 ⟨pi, us, e, rfl, rfl, hul, hus⟩
    subst hm1
    refine k h' tk' pi us e F2 (fun q hq => ?_) hus
    rcases List.mem_cons.mp hq with rfl | hq
    · exact N2 _ (.head _)
    · exact N2 _ (.tail _ (.tail _ hq))
end Mine
end

/- text L4a -/
section
open PySem PySem.W PyProof.Rows PySem.Calls PyProof.V PySem.Spec
set_option maxRecDepth 100000
namespace Mine
section
variable {prog : Program} {w : World} {A : Around} {h₀ : Heap} {m : Str → Option Value} {env : Env} {E : Value → Shared → Prop} {s : Shared} {news : List (Addr × Obj)}
/-- for x in a list of the ledger, x any target -/
theorem list_loopT {target : Expr} {body : List Stmt} {Q : Flow → Shared → Prop} {l : Addr} {vs : List Value} {e : Nat} (J : Nat → (Str → Option Value) → List (Addr × Obj) → Prop)
    (hh : A.handled = none) (hl : (l, listOf vs.toArray e) ∈ news) (F : Fr h₀ env.locals s.heap m) (N : News h₀ env.locals s.heap news) (h0 : J 0 m news)
    (hJl : ∀ i m₁ news₁, J i m₁ news₁ → (l, listOf vs.toArray e) ∈ news₁)
    (hgo : ∀ (s' : Shared) (I : Addr) v (Q' : Unit → Shared → Prop), Q' () s' → wpAny (model prog w) A (letOwnedTupleGo target (.ref I) v) Q' E s')
    (turn : ∀ (i : Nat) v m₁ news₁ (s₁ : Shared) I o (Q' : Flow → Shared → Prop), vs[i]? = some v → J i m₁ news₁ → (∀ p ∈ news₁, p.1 ≠ I) → Fr h₀ env.locals s₁.heap m₁ → News h₀ env.locals s₁.heap (news₁ ++ [(I, o)]) →
      (∀ h' tk' m₂ news₂, Fr h₀ env.locals h' m₂ → News h₀ env.locals h' (news₂ ++ [(I, o)]) → (∀ p ∈ news₂, p.1 ≠ I) → J (i + 1) m₂ news₂ → Q' .next { s₁ with heap := h', toks := tk' }) →
      wpAny (model prog w) A (assign target env v) (fun _ s₃ => wpAny (model prog w) A (execs body env) Q' E s₃) E s₁)
    (done : ∀ h' tk' m' news', Fr h₀ env.locals h' m' → News h₀ env.locals h' news' → J vs.length m' news' → Q .next { s with heap := h', toks := tk' }) :
    wpAny (model prog w) A (pyIter (.ref l)) (fun it s₂ => LoopAtT prog w A h₀ env target body Q E it s₂) E s := by
  have hL : s.heap.IsList l vs.toArray := ⟨_, (N _ hl).1, rfl, _, rfl⟩
  refine wpAny_pyIter_list hL ?_
  have hI := kdx_fresh F (x := s.heap.objs.size) (Nat.le_refl _)
  have hlI : l ≠ s.heap.objs.size := Nat.ne_of_lt (Heap.lt_size (N _ hl).1)
  refine ⟨s.heap.objs.size, [s.heap.objs.size, l], [s.heap.objs.size], _, _, _, m, news, J, rfl, Walks.list hh _ l hlI vs.toArray, ?_, ?_, ?_, ⟨⟨_, Heap.get?_push_size _ rfl, rfl, rfl⟩, hL.push _⟩, F.push _, N.grown fun b o e => Heap.get?_push_of_some _ e, fun _ s' v Q' _ q => hgo s' _ v Q' q, h0, ?_, ?_⟩
  · intro z
    rcases List.mem_cons.mp z with z | z
    · exact hI.1 z.symm
    · exact (N _ hl).2.1 (List.mem_singleton.mp z).symm
  · intro b hb; rw [List.mem_singleton.mp hb]; exact hI.2
  · intro p hp z
    have := Heap.lt_size (N p hp).1
    rw [List.mem_singleton.mp z] at this
    exact Nat.lt_irrefl _ this
  · rintro i v m₁ news₁ s₁ own hi hv hJ hnw ho1 ho2 ho3 hst F₁ N₁
    obtain ⟨oI, hoI⟩ : ∃ o, s₁.heap.get? s.heap.objs.size = some o := let ⟨o, ho, _⟩ := hst.1; ⟨o, ho⟩
    have hN : News h₀ env.locals s₁.heap (news₁ ++ [(s.heap.objs.size, oI)]) := fun q hq => by
      rcases List.mem_append.mp hq with hq | hq
      · exact N₁ q (List.mem_append_right _ hq)
      · obtain rfl := List.mem_singleton.mp hq
        exact ⟨hoI, hI⟩
    have hv' : vs[i]? = some v := by simpa using hv
    have hl1 := (hN _ (List.mem_append_left _ (hJl _ _ _ hJ))).1
    refine wpAny_mono (turn i v m₁ news₁ s₁ s.heap.objs.size oI (fun f s' => f = .next ∧ ∃ h' tk' m₂ news₂, Fr h₀ env.locals h' m₂ ∧ News h₀ env.locals h' (news₂ ++ [(s.heap.objs.size, oI)]) ∧ (∀ p ∈ news₂, p.1 ≠ s.heap.objs.size) ∧ J (i + 1) m₂ news₂ ∧ s' = { s₁ with heap := h', toks := tk' }) hv' hJ (fun p hp z => hnw p hp (List.mem_singleton.mpr z)) F₁ hN ?_) (fun _ s₃ h₃ => wpAny_mono h₃ (fun f s₄ h₄ => ?_) fun _ _ z => z) fun _ _ z => z
    · intro h' tk' m₂ news₂ F₂ N₂ ne hJ₂
      exact ⟨rfl, h', tk', m₂, news₂, F₂, N₂, ne, hJ₂, rfl⟩
    obtain ⟨rfl, h', tk', m₂, news₂, F₂, N₂, ne, hJ₂, rfl⟩ := h₄
    refine LoopStepU.intro F₂ (fun q hq => ?_) (fun p hp z => ne p hp (List.mem_singleton.mp z)) hJ₂
    rcases List.mem_append.mp hq with hq | hq
    · have e2 := ho2 q hq
      obtain ⟨q1, q2⟩ := q
      have e1 := ho1 _ hq
      simp only at e1 e2
      rcases List.mem_cons.mp e1 with rfl | e1
      · have e3 := hoI.symm.trans e2
        obtain rfl := Option.some.inj e3
        exact N₂ _ (List.mem_append_right _ (.head _))
      · obtain rfl := List.mem_singleton.mp e1
        have e3 := hl1.symm.trans e2
        obtain rfl := Option.some.inj e3
        exact N₂ _ (List.mem_append_left _ (hJl _ _ _ hJ₂))
    · exact N₂ q (List.mem_append_left _ hq)
  · rintro h' tk' m' news' F' N' _ hJ'
    exact done h' tk' m' news' F' N' (by simpa using hJ')
end
end Mine
end

/- text C1 -/
section
open PySem PySem.W PyProof.Rows PySem.Calls PyProof.V PySem.Spec Builtin Builtin.ObjectAttr Builtin.Getset_descriptor
set_option maxRecDepth 100000
namespace Mine

structure MakesD (M : Model) (h : Heap) (C : Addr) : Prop where
  obj : ∃ oc od cd sl, h.get? C = some ⟨oc, od, .cls cd, sl⟩ ∧ cd.abstract = false ∧ cd.hasDel = false ∧ cd.mro = [.ref C, .type "dict", .type "object"]
  made : Looks M h (Bind.madeBy (.ref C)) (some "dict.__new__")
  base : Looks M h (Bind.staticBase (.ref C)) (.ref C)
  mro : Looks M h (mroOf (.ref C)) [.ref C, .type "dict", .type "object"]
  self : Looks M h (isSubtype (.ref C) (.ref C)) true
  sub : Looks M h (isSubtype (.ref C) (.type "dict")) true
  call : Looks M h (specialOf (.ref C) "__call__") (some (.builtin "type.__call__"))
  typ : Looks M h (isInstance (.ref C) (.type "type")) true

theorem makesD_of {K : Frag} {M : Model} {h : Heap} (X : K.In h) {C : Addr} {oc : Value} {od : Option Addr} {cd : ClassData} {sl : Array (Option Value)} (hC : K.lookup C = some ⟨oc, od, .cls cd, sl⟩)
    (e1 : cd.abstract = false) (e2 : cd.hasDel = false) (hl : cd.mro = [.ref C, .type "dict", .type "object"]) (e3 : (sl.toList[4]?).join = some (.builtin "dict.__new__"))
    (e7 : specialIn K (.ref C) "__call__" = some (some (.builtin "type.__call__"))) (e8 : instIn K (.ref C) (.type "type") = some true) : MakesD M h C := by
  have hc : clsIn K C = some cd := by unfold clsIn; rw [hC]
  have hm : Looks M h (mroOf (.ref C)) cd.mro := (looks_clsIn X hc).andThen .now
  have made : Looks M h (Bind.madeBy (.ref C)) (some "dict.__new__") := by
    intro A Q E s k q
    unfold Bind.madeBy
    refine wpAny_bind (hm A _ E s k ?_)
    rw [hl, List.forIn_cons]
    refine wpAny_bind (wpAny_bind (wpAny_bind (wpAny_bind (wpAny_loadPart (k _ _ (X _ _ hC)) (wpAny_pure ?_)))))
    dsimp only
    rw [← Array.getElem?_toList, e3]
    exact wpAny_pure (wpAny_pure (wpAny_pure q))
  refine ⟨⟨oc, od, cd, sl, X _ _ hC, e1, e2, hl⟩, made, ?_, hl ▸ hm, looks_mroIn X ?_, looks_mroIn X ?_, looks_specialIn X e7, looks_instIn X e8⟩
  · intro A Q E s k q
    unfold Bind.staticBase
    refine wpAny_bind (hm A _ E s k ?_)
    rw [hl, List.forIn_cons]
    exact wpAny_bind (wpAny_bind (wpAny_bind (made A _ E s k (wpAny_pure (wpAny_pure (wpAny_pure q))))))
  · unfold mroIn; rw [hc, Option.bind_some, hl, if_neg (by simp)]; simp
  · unfold mroIn; rw [hc, Option.bind_some, hl, if_neg (by simp)]; simp

theorem dn_split : splitId "dict.__new__" = some ("dict", "__new__") := by decide +kernel
theorem dn_kind : builtinKind "dict.__new__" = some .builtinFn := by decide +kernel
theorem dn_quiet : "dict.__new__".startsWith "lifetime." = false := by decide +kernel

abbrev cntObj (C dx : Addr) (es : Array DictEntry) (n : Nat) : Obj := { cls := .ref C, dict := some dx, data := .dict es n }

theorem new_D {prog : Program} {w : World} {A : Around} {C : Addr} {R : Result → Shared → Prop} {h : Heap} {g : Array GenState} {d : Drawn} {t : Nat} {os : OsState} {rest : List Value} {kw : List (Str × Value)}
    (Y : MakesD (model prog w) h C)
    (hq : R (.ok (.ret (.ref (h.objs.size + 1)))) ⟨(h.push emptyDict).push (cntObj C h.objs.size #[] 0), g, d, t, os⟩) :
    codeAny (model prog w) A (.call (.builtin "dict.__new__") ⟨.ref C :: rest, kw⟩) R ⟨h, g, d, t, os⟩ := by
  obtain ⟨⟨oc, od, cd, sl, hC, e1, e2, hl⟩, made, base, mro, self, sub, call, typ⟩ := Y
  refine codeAny_call_builtin_code (Code.quiet_builtin _ dn_quiet) ?_
  have row : Manifest.signature? "dict.__new__" = some ⟨.any, "dict", "dict", .cls, [⟨"args", .varPos, false⟩, ⟨"kwargs", .varKw, false⟩]⟩ := by kernel_rfl
  have args : Bind.checkArgs "dict.__new__" ⟨.any, "dict", "dict", .cls, [⟨"args", .varPos, false⟩, ⟨"kwargs", .varKw, false⟩]⟩ ⟨.ref C :: rest, kw⟩ = pure () := by kernel_rfl
  simp only [checkBuiltinCall, dn_kind, dn_split, row]
  rw [args]
  repeat (first | simp only [bne_self_eq_false, Bool.false_eq_true, if_false] | lk)
  refine codeAny_builtin PySem.F.kt_entry_dict_new ?_
  unfold Builtin.«dict.__new__»
  repeat (first | simp only [bne_self_eq_false, Bool.false_eq_true, if_false] | lk)
  refine nd_load (Heap.get?_push_of_some _ (Heap.get?_push_of_some _ hC)) ?_
  refine wpAny_pure ?_
  dsimp only
  rw [e2]
  refine wpAny_pure (wpAny_pure ?_)
  refine wpAny_pure ?_
  show R _ _
  rw [Heap.size_push]
  exact hq

theorem make_D {prog : Program} {w : World} {A : Around} {C : Addr} {R : Result → Shared → Prop} {h : Heap} {g : Array GenState} {d : Drawn} {t : Nat} {os : OsState} {rest : List Value} {kw : List (Str × Value)}
    {init : Value} (Y : MakesD (model prog w) h C) (hi : Looks (model prog w) h (typeLookup (.ref C) "__init__") (some init))
    (hb : ∀ self, Looks (model prog w) h (bindSpecial init self) (init, [self]))
    (hq : codeAny (model prog w) (A.under (.builtin "type.__call__" ⟨.ref C :: rest, kw⟩)) (.call init ⟨.ref (h.objs.size + 1) :: rest, kw⟩) (InitBack (h.objs.size + 1) R) ⟨(h.push emptyDict).push (cntObj C h.objs.size #[] 0), g, d, t, os⟩) :
    codeAny (model prog w) A (.call (.ref C) ⟨rest, kw⟩) R ⟨h, g, d, t, os⟩ := by
  have Y' := Y
  obtain ⟨⟨oc, od, cd, sl, hC, e1, e2, hl⟩, made, base, hm, self, sub, call, typ⟩ := Y
  refine codeAny_of_tree ?_
  show wpAny _ _ (callAny (.ref C) _) _ _ _
  refine nd_load hC ?_
  show wpAny _ _ (callAny.viaDunder (.ref C) _) _ _ _
  unfold callAny.viaDunder
  refine wpAny_bind (call.at ?_)
  dsimp only
  rw [tc_bind]
  refine wpAny_bind (wpAny_pure (wpAny_bind (wpAny_pure ?_)))
  refine wpAny_pure (a := Fin.again (.call (.builtin "type.__call__") ⟨.ref C :: rest, kw⟩)) (And.intro rfl ?_)
  refine codeAny_call_builtin_at (Code.quiet_builtin _ (by decide +kernel)) entry_typeCall (check_slot tc_kind tc_split typ (tc_args _ _ _) ?_)
  unfold Builtin.«type.__call__»
  repeat (first | simp only [Bool.false_eq_true, if_false] | with_reducible refine wpAny_call ?_ | lk)
  refine new_D Y' ?_
  have k : ∀ b o, h.get? b = some o → ((h.push emptyDict).push (cntObj C h.objs.size #[] 0)).get? b = some o := fun b o e => Heap.get?_push_of_some _ (Heap.get?_push_of_some _ e)
  have hx : ((h.push emptyDict).push (cntObj C h.objs.size #[] 0)).get? (h.objs.size + 1) = some (cntObj C h.objs.size #[] 0) := by heap_get
  have t1 : Looks (model prog w) ((h.push emptyDict).push (cntObj C h.objs.size #[] 0)) (typeOf (.ref (h.objs.size + 1))) (.ref C) := (Looks.ld hx).andThen .now
  have s1 := self.keeps k
  have i1 := hi.keeps k
  have b1 := (hb (.ref (h.objs.size + 1))).keeps k
  unfold isInstance callSpecial? specialOf
  repeat (first | with_reducible refine wpAny_call ?_ | lk)
  refine codeAny_mono hq fun r s' z => ?_
  rcases r with e | (v | _ | _ | _) <;> first | exact z | exact z.elim | skip
  obtain ⟨rfl, z⟩ := z
  exact wpAny_pure (wpAny_pure z)
end Mine
end

/- text C2 -/
section
open PySem PySem.W PyProof.Rows PySem.Calls PyProof.V PySem.Spec Builtin Builtin.ObjectAttr Builtin.Getset_descriptor
set_option maxRecDepth 100000
namespace Mine
section
variable {prog : Program} {w : World} {A A₀ : Around} {s : Shared} {K : Frag} {L : Addr} {h₀ base : Heap} {m mg mb : Str → Option Value} {news : List (Addr × Obj)} {p : Program} {loose : List Str} {mean : ExcName → Option Value}
theorem wp_of_peekA' {α : Type} {M : Model} {A : Around} {E : Value → Shared → Prop} {Q : α → Shared → Prop} {o : Obj}
    (F : Fr h₀ L s.heap m) (N : News h₀ L s.heap news) (X : K.In s.heap) (hf : o.isFreed = false) :
    ∀ (t : Sem α) (g : Addr → Sem α), peekA K ⟨M.prog, M.w.params⟩ t = some (o, g) →
      (∀ h', Fr h₀ L h' m → News h₀ L h' ((s.heap.objs.size, o) :: news) → (∀ p ∈ news, p.1 < s.heap.objs.size) → s.heap.StaysIn h' → wpAny M A (g s.heap.objs.size) Q E { s with heap := h' }) → wpAny M A t Q E s := by
  intro t
  induction t with
  | rule _ k ih => intro g e q Γ p hΓ; exact ih () g e q Γ p hΓ
  | point _ k ih => intro g e q Γ p hΓ; exact ih () g e q Γ p hΓ
  | ask k ih => intro g e q Γ p hΓ; exact ih _ g e q Γ p hΓ
  | load a _ k ih =>
    intro g e q Γ p hΓ
    simp only [peekA] at e
    split at e
    · rename_i o' ho
      exact ⟨o', X _ _ ho, ih o' g e q Γ p hΓ⟩
    · cases e
  | alloc o' k =>
    intro g e q
    simp only [peekA, Option.some.injEq, Prod.mk.injEq] at e
    obtain ⟨rfl, rfl⟩ := e
    exact nd_alloc (q _ (F.push _) (News.push F N _ hf) (fun p hp => Heap.lt_size (N p hp).1) (fun b ob e => Heap.get?_push_of_some _ e))
  | _ => intro g e; simp [peekA] at e
/-- a def with **kwds and super(): its own enter -/
theorem enter_super {env : Env} {outer : List Env} {R : Result → Shared → Prop} {name qual : Str} {params : Arguments} {body : List Stmt} {scope : Scope} {cc : Addr} {dV kV doc pm cdv ct oc : Value} {an od : Option Addr} {osl : Array (Option Value)} {f : Addr} {args : Args} {nm : Str} {front : List (Str × Value)} {g₁ : Addr → Sem (List (Str × Value))}
    (B : Below A₀ base outer h₀) (F : Fr h₀ L s.heap m) (X₀ : K.In h₀) (N : News h₀ L s.heap news) (T : Top p loose mean mg mb h₀) (hA : A.frames = some (env :: outer)) (hf : env.frame = some L) (hke : env.scope.kind = .function)
    (ho : K.lookup f = some ⟨oc, od, .func (ksFn name qual params body scope dV kV doc pm an cdv ct cc), osl⟩) (hcd : codeIn K cdv qual = true) (hroom : A.depth < recursionLimit)
    (hnm : params.kwarg.map (·.arg) = some nm)
    (_hfr : peek K ⟨prog, w.params⟩ (bindArgs (fnCut (ksFn name qual params body scope dV kV doc pm an cdv ct cc)) (argsCut params args)) = some front)
    (hp : peekA K ⟨prog, w.params⟩ (bindArgs (ksFn name qual params body scope dV kV doc pm an cdv ct cc) args) = some (dictOf [] 0, g₁))
    (hk₁ : ∀ D, g₁ D = pure (front ++ [(nm, Value.ref D)]))
    (hloc : ∀ D, ∀ y ∈ front ++ [(nm, Value.ref D)], scope.names.lookup y.1 = some .local)
    (h : ∀ D g L' h₁ tk, (∀ b o, b ∉ news.map (·.1) → s.heap.get? b = some o → g.get? b = some o) → (∀ p ∈ news, p.1 < D) → (D == sysModules) = false → (dictOf [] 0 : Obj).IsDictOf (strKind prog w) [] → FlatPairs PyData.str [] [] → Fr h₀ L g m → Fr g L' h₁ (fun y => (front ++ [(nm, Value.ref D)]).reverse.lookup y) → News g L' h₁ ((D, dictOf [] 0) :: news) → Below A base (env :: outer) g → K.In g → Top p loose mean mg mb g →
      _root_.PySem.wpAt (model prog w) (A.deeper (ksEnv qual scope L' f cdv cc)) (.func body (ksEnv qual scope L' f cdv cc)) (execs body (ksEnv qual scope L' f cdv cc))
        (fun fl s' => LeaveK h₀ L m g (fun r s'' => g.StaysIn s''.heap → R r s'') (match fl with | .ret v => v | _ => .none) s')
        (fun e s' => wpAny (model prog w) (A.deeper (ksEnv qual scope L' f cdv cc)) (leaving (ksEnv qual scope L' f cdv cc) e) (fun _ s'' => R (.error e) s'') (fun e' s'' => R (.error e') s'') s')
        { s with heap := h₁, toks := tk })
    (hco : scope.isCoroutine = false) (hgen : scope.isGenerator = false) (hk : scope.kind = .function)
    (hcell : ∀ x ∈ scope.names, x.2 ≠ .cell) : codeAny (model prog w) A (.call (.ref f) args) R s := by
  have _ := hnm
  refine codeAny_call_function (fd := ksFn name qual params body scope dV kV doc pm an cdv ct cc) (body := body) hroom ((X₀.keeps F.keep) _ _ ho) rfl hco hgen rfl (codeRec_of (X₀.keeps F.keep) hcd) ?_
  refine wp_of_peekA' (o := dictOf [] 0) F N (X₀.keeps F.keep) rfl _ g₁ hp fun h' F' N' l hst => ?_
  rw [hk₁]
  refine wpAny_pure ?_
  obtain ⟨FG, BG, st, lv⟩ := groundX (s := { s with heap := h' }) (R := fun r s'' => (hideAll h' (((s.heap.objs.size, dictOf [] 0) :: news).map (·.1))).StaysIn s''.heap → R r s'') B F' N' hA hf hke
  refine wpAny_newFunctionEnv (s := { s with heap := h' }) hcell (hloc _) (fun h₁ hns hsb => ⟨(T.nolimit.keeps F'.keep).fresh _ hsb, ks_codeAny_funcAt ?_⟩) hk
  have hk₁ : ∀ b o, h'.get? b = some o → h₁.get? b = some o := fun b o e => hsb.extBut b o (Nat.ne_of_lt (Heap.lt_size e)) (Heap.get?_push_of_some _ e)
  refine ks_wpAt_mono (h _ _ h'.objs.size h₁ _ (fun b o hb e => hideAll_get _ (hst b o e) (fun q => by
      rcases List.mem_cons.mp q with q | q
      · exact absurd (Heap.lt_size e) (by rw [q]; exact Nat.lt_irrefl _)
      · exact hb q)) l (F.notModules (modules_low T.nolimit)) (kp_isDict (ex := []) s.toks 0 (by simp)) .nil FG ⟨hns, fun b o e => hk₁ b o (of_hideAll _ e), Nat.le_of_eq (hideAll_size _ _)⟩
    (fun p hp => ⟨hk₁ _ _ (N' p hp).1, Nat.ne_of_lt (Heap.lt_size (N' p hp).1), hideAll_none _ (List.mem_map_of_mem hp)⟩) BG (X₀.keeps st) (T.keeps st)) (fun fl s' hl => ?_) fun _ _ y => y
  exact lv _ _ hl (let ⟨_, _, _, f', _, _⟩ := hl; f'.keep)
end
end Mine
end

/- text C2b -/
section
open PySem PySem.W PyProof.Rows PySem.Calls PyProof.V PySem.Spec Builtin Builtin.ObjectAttr Builtin.Getset_descriptor
set_option maxRecDepth 100000
namespace Mine
theorem slot_wd_get : Slot "wrapper_descriptor" "__get__" "wrapper_descriptor.__get__" := .of (owner := "wrapper_descriptor") (n := "__get__") (by rw [typeLookup_type, builtinLookup_eq_fast]; kernel_rfl) (by decide +kernel) (by decide +kernel) (by decide +kernel)
  (by first | exact .inl (by decide +kernel) | exact .inr (by decide +kernel)) (by rw [isSubtype_type]; kernel_rfl)
theorem entry_wd_get : entryFor table "wrapper_descriptor.__get__" = some Builtin.«wrapper_descriptor.__get__» := entryFor_of_tree (by kernel_rfl)
theorem args_wd_get (a b c : Value) : argsOk "wrapper_descriptor.__get__" ⟨[a, b, c], []⟩ := by unfold argsOk; kernel_rfl
theorem type_dict_init : typeOf (.builtin "dict.__init__") = pure (.type "wrapper_descriptor") := by show builtinType _ = _; rw [builtinType_eq_fast]; kernel_rfl

abbrev mwObj (id : String) (x : Addr) : Obj := { cls := .type "method-wrapper", data := .fields #[.builtin id, .ref x] }

theorem looks_sub_n {M : Model} {h : Heap} {v : Value} {n n' : String} {r : Bool} (e : n = n') (x : Looks M h (isSubtype v (.type n')) r) : Looks M h (isSubtype v (.type n)) r := e ▸ x

theorem looks_inst_n {M : Model} {h : Heap} {v : Value} {n n' : String} {r : Bool} (x : Looks M h (isInstance v (.type n')) r) (e : n = n') : Looks M h (isInstance v (.type n)) r := e ▸ x

theorem wd_get_run {prog : Program} {w : World} {A : Around} {E : Value → Shared → Prop} {h : Heap} {g : Array GenState} {d : Drawn} {t : Nat} {os : OsState} {x C : Addr} {Q : Fin → Shared → Prop}
    (hi : Looks (model prog w) h (isInstance (.ref x) (.type "dict")) true)
    (hq : Q (.done (.ret (.ref h.objs.size))) ⟨h.push (mwObj "dict.__init__" x), g, d, t, os⟩) :
    wpAny (model prog w) A (Builtin.«wrapper_descriptor.__get__» ⟨[.builtin "dict.__init__", .ref x, .ref C], []⟩) Q E ⟨h, g, d, t, os⟩ := by
  unfold Builtin.«wrapper_descriptor.__get__»
  repeat (first | (with_reducible refine Looks.at (looks_inst_n hi ?e) ?_; (case e => decide +kernel)) | lk)
  exact hq

set_option maxHeartbeats 1000000 in
theorem super_init {prog : Program} {w : World} {A : Around} {E : Value → Shared → Prop} {h : Heap} {g : Array GenState} {d : Drawn} {t : Nat} {os : OsState} {K : Frag} {so D x C : Addr} {l₀ : List Value} {pl : Sem Bool} {Q : Value × List Value → Shared → Prop}
    (hso : h.get? so = some (ks_superObj D x C)) (hno : Looks (model prog w) h (opaqueClassAbove (.ref C)) none)
    (hC : Looks (model prog w) h (mroOf (.ref C)) l₀) (X : K.In h) (hf : alongIn K "__init__" ((l₀.dropWhile (· != .ref D)).drop 1) = some (some (.builtin "dict.__init__"))) (hxC : x ≠ C)
    (hi : Looks (model prog w) h (isInstance (.ref x) (.type "dict")) true)
    (hq : Q (.ref h.objs.size, []) ⟨h.push (mwObj "dict.__init__" x), g, d, t + 1, os⟩) :
    wpAny (model prog w) A (getMethod (.ref so) "__init__" pl) Q E ⟨h, g, d, t, os⟩ := by
  have hlk := PySem.F.ks_slot_super_ga.lookup
  have hcan := PySem.F.ks_canon_super_ga
  have hT : ∀ t', (⟨h, g, d, t', os⟩ : Shared).TypeIs (.ref so) "super" := fun _ => ⟨_, hso, rfl⟩
  unfold getMethod
  refine wpAny_bind (wpAny_specialOf (hT _) hlk ?_)
  show wpAny _ _ (if (Manifest.canonical "super.__getattribute__" != "object.__getattribute__") = true then _ else _) _ _ _
  rw [if_pos hcan]
  unfold getAttr getAttrBy
  refine wpAny_bind (wpAny_bind (wpAny_mkText (wpAny_holding (wpAny_bind (wpAny_typeOf (hT _) (wpAny_bind (wpAny_of_eq hlk ?_)))))))
  show wpAny _ _ (getAttrByItsOwn (.ref so) (.str "__init__" t) (.type "super") (.builtin "super.__getattribute__") true false) _ _ _
  unfold getAttrByItsOwn hookBefore callGetattribute boundAndCalled
  refine wpAny_bind (wpAny_of_eq (show (if onTheHeap (.type "super") then typeLookup (.type "super") "__getattr__" else pure none) = pure none from rfl) ?_)
  refine wpAny_bind (wpAny_attempt (wpAny_holding ?_))
  show wpAny _ _ (bindSpecial (.builtin "super.__getattribute__") (.ref so) >>= _) _ _ _
  refine wpAny_bind (wpAny_of_eq (PySem.F.ks_slot_super_ga.bind _) ?_)
  refine wpAny_mono (Q := fun v s' => v = .ref h.objs.size ∧ s' = ⟨h.push (mwObj "dict.__init__" x), g, d, t + 1, os⟩) (E := fun _ _ => False)
    (wpAny_call_entry PySem.F.ks_slot_super_ga (hT _) PySem.F.ks_entry_super_ga ?_ (PySem.F.ks_gaArgs_super _ _)) (fun v s' hv => ?_) fun _ _ z => z.elim
  · have hlk := slot_wd_get.lookup
    have hne : (Value.ref x == Value.ref C) = false := by simp [hxC]
    have hdt : (ks_superObj D x C).data = .fields #[.ref D, .ref x, .ref C] := rfl
    have f0 : (#[.ref D, .ref x, .ref C] : Array Value)[0]? = some (.ref D) := rfl
    have f1 : (#[.ref D, .ref x, .ref C] : Array Value)[1]? = some (.ref x) := rfl
    have f2 : (#[.ref D, .ref x, .ref C] : Array Value)[2]? = some (.ref C) := rfl
    unfold Builtin.«super.__getattribute__»
    repeat (first
      | (with_reducible refine wpAny_field hso hdt f0 ?_) | (with_reducible refine wpAny_field hso hdt f1 ?_) | (with_reducible refine wpAny_field hso hdt f2 ?_)
      | (with_reducible refine ks_wpAny_notOpaque hno ?_)
      | (with_reducible refine Looks.at hC ?_)
      | (refine ks_forIn_along X (fun _ _ => rfl) rfl ?_ hf)
      | (with_reducible refine wpAny_of_eq type_dict_init ?_)
      | (with_reducible refine wpAny_call_entry slot_wd_get (.builtin type_dict_init) entry_wd_get ?_ (args_wd_get _ _ _))
      | (simp only [hne, Bool.or_false, Bool.false_eq_true, if_false])
      | wp_step
      | dsimp only)
    refine codeAny_call_builtin slot_wd_get.plain entry_wd_get (slot_wd_get.check _ _ _ _ _ _ _ _ type_dict_init (args_wd_get _ _ _) (wd_get_run hi ?_))
    exact wpAny_pure (wpAny_pure ⟨_, rfl, rfl, rfl⟩)
  obtain ⟨rfl, rfl⟩ := hv
  exact wpAny_pure (wpAny_pure hq)
end Mine
end

/- text C2c -/
section
open PySem PySem.W PyProof.Rows PySem.Calls PyProof.V PySem.Spec Builtin Builtin.ObjectAttr Builtin.Getset_descriptor
set_option maxRecDepth 100000
namespace Mine
section
variable {prog : Program} {w : World} {A : Around} {E : Value → Shared → Prop} {s : Shared} {K : Frag} {so x C D L q : Addr} {h₀ : Heap} {m : Str → Option Value} {news : List (Addr × Obj)} {ox : Obj} {od : Option Obj} {cd : ClassData}
theorem super_init_K {pl : Sem Bool} {Q : Value × List Value → Shared → Prop} (F : Fr h₀ L s.heap m) (X₀ : K.In h₀) (N : News h₀ L s.heap news) (hso : (so, ks_superObj D x C) ∈ news) (I : InstAt s.heap x ox C od) (hno : nsIn K cStatics "thirdparty.any" = some none)
    (hc : clsIn K C = some cd) (hf : ks_superIn K C D "__init__" = some (some (.builtin "dict.__init__"))) (hs : subIn K (.ref C) (.type "dict") = some true)
    (h : ∀ q h', Fr h₀ L h' m → News h₀ L h' ((q, mwObj "dict.__init__" x) :: news) → (∀ p ∈ news, p.1 < q) → Q (.ref q, []) { s with heap := h', toks := s.toks + 1 }) :
    wpAny (model prog w) A (getMethod (.ref so) "__init__" pl) Q E s := by
  have X : K.In s.heap := X₀.keeps F.keep
  have hi : Looks (model prog w) s.heap (isInstance (.ref x) (.type "dict")) true := I.type.andThen (looks_subIn X hs)
  have hxC := ks_ne X I hc
  have hm : Looks (model prog w) s.heap (mroOf (.ref C)) cd.mro := (looks_clsIn X hc).andThen .now
  have hl : alongIn K "__init__" ((cd.mro.dropWhile (· != .ref D)).drop 1) = some (some (.builtin "dict.__init__")) := by
    unfold ks_superIn at hf; rw [hc] at hf; exact hf
  obtain ⟨hh, g, d, t, os⟩ := s
  refine super_init (K := K) (N _ hso).1 (looks_opaque X hno) hm X hl hxC hi ?_
  obtain ⟨F', N', l'⟩ := ks_newsPush (s := ⟨hh, g, d, t, os⟩) (o := mwObj "dict.__init__" x) F N rfl (Heap.get?_push_at rfl rfl) (fun b o e => Heap.get?_push_of_some _ e)
  exact h _ _ F' N' l'
theorem dict_init_none {Q : Value → Shared → Prop} (N : News h₀ L s.heap news) (hq : (q, mwObj "dict.__init__" x) ∈ news) (I : InstAt s.heap x ox C od) (X : K.In s.heap) (hd : subIn K (.ref C) (.type "collections.OrderedDict") = some false)
    (h : Q .none s) : wpAny (model prog w) A (call (.ref q) []) Q E s := by
  have hso := (N _ hq).1
  obtain ⟨hh, g, d, t, os⟩ := s
  refine wpAny_call (codeAny_of_tree ?_)
  show wpAny _ A.in1 (callAny (.ref q) _) _ _ _
  unfold callAny
  refine wpAny_bind (wpAny_load hso ?_)
  dsimp only
  repeat lk
  have ho : Looks (model prog w) hh (isSubtype (.ref C) (.type "collections.OrderedDict")) false := looks_subIn X hd
  obtain ⟨hx, hcl, -, -⟩ := I
  obtain ⟨oc, odd, odt, osl⟩ := ox
  dsimp only at hcl hx
  subst hcl
  refine ⟨Code.quiet_builtin _ (by decide +kernel), ?_⟩
  show codeAny _ _ (.builtin "dict.__init__" ⟨[.ref x], []⟩) _ _
  refine codeAny_builtin PySem.F.entry_dict_init ?_
  unfold Builtin.«dict.__init__»
  repeat lk
  exact h
theorem dict_init_call {env : Env} {pos : Pos} {Q : Value → Shared → Prop} (N : News h₀ L s.heap news) (hq : (q, mwObj "dict.__init__" x) ∈ news) (I : InstAt s.heap x ox C od) (X : K.In s.heap) (hd : subIn K (.ref C) (.type "collections.OrderedDict") = some false)
    (h : Q .none s) : wpAny (model prog w) A (callWith pos (.ref q) [] (backTo pos (starEach [] env)) []) Q E s :=
  callWith_of (P := fun h => h.get? q = some (mwObj "dict.__init__" x)) rfl (fun _ e => ⟨.machine, .inr (.inl rfl), (Looks.ld (part := none) e).andThen .now⟩)
    (evalArgs_nil3 ⟨(N _ hq).1, dict_init_none N hq I X hd h⟩)
end
end Mine
end

/- text C2d -/
section
open PySem PySem.W PyProof.Rows PySem.Calls PyProof.V PySem.Spec Builtin Builtin.ObjectAttr Builtin.Getset_descriptor
set_option maxRecDepth 100000
namespace Mine
section
variable {prog : Program} {w : World} {A : Around} {E : Value → Shared → Prop} {s : Shared} {K : Frag} {so x C D L q : Addr} {h₀ : Heap} {m : Str → Option Value} {news : List (Addr × Obj)} {ox : Obj} {od : Option Obj} {cd : ClassData} {name : Str}
/-- a method of an object of a dict's subclass: the def, or the built-in -/
theorem method_D {f t : Value} {ga : String} {pl : Sem Bool} {Q : Value × List Value → Shared → Prop} (X : K.In s.heap) (I : InstAt s.heap x ox C od) (hga : findIn K (.ref C) "__getattribute__" = some (some (.builtin ga))) (hcan : (Manifest.canonical ga != "object.__getattribute__") = false) (hk : findIn K (.ref C) "__getattr__" = some none)
    (hf : findIn K (.ref C) name = some (some f)) (ht : typeIn K f = some t) (hb : (t != .type "function" && t != .type "method_descriptor" && t != .type "wrapper_descriptor") = false) (hs : shadowIn od name = some false) (h : Q (f, [.ref x]) s) :
    wpAny (model prog w) A (getMethod (.ref x) name pl) Q E s := by
  unfold getMethod specialOf
  refine wpAny_bind (wpAny_bind (I.type.here ((looks_findIn X hga).here ?_)))
  dsimp only
  rw [hcan, if_neg (by decide)]
  refine wpAny_bind (wpAny_bind (I.type.here ((looks_findIn X hk).here ?_)))
  refine wpAny_bind (wpAny_bind (I.type.here ((looks_findIn X hf).here (wpAny_bind ((looks_typeIn X ht).here ?_)))))
  rw [if_neg (by rw [hb]; decide)]
  refine wpAny_bind (wpAny_loadPart I.at_ ?_)
  have hd := I.dict
  cases e : ox.dict with
  | none => exact wpAny_bind (wpAny_rule (wpAny_pure h))
  | some dx =>
    cases od with
    | none => rw [e] at hd; exact hd.elim
    | some o =>
      rw [e] at hd
      obtain ⟨r, a, b⟩ := Option.map_eq_some_iff.mp hs
      refine wpAny_bind (wpAny_bind (wpAny_loadPart hd ?_))
      rw [nsLook_of a]
      refine wpAny_pure ?_
      rw [b]
      exact wpAny_bind (wpAny_rule (wpAny_pure h))

theorem merge_empty {D N : Addr} {h : Heap} {g : Array GenState} {d : Drawn} {tk : Nat} {os : OsState} {Q : Unit → Shared → Prop}
    (hD : h.get? D = some (dictOf [] 0)) (hN : h.get? N = some (dictOf [] 0)) (lo : (D == sysModules) = false) (hq : Q () ⟨h, g, d, tk, os⟩) :
    wpAny (model prog w) A (mergeMapping N (.ref D) true) Q E ⟨h, g, d, tk, os⟩ := by
  have i1 : Looks (model prog w) h (isInstance (.ref D) (.type "dict")) true := (Looks.ld hD).andThen (Looks.of_pure PySem.F.kt_sub_dict)
  have i2 : Looks (model prog w) h (specialOf (.ref D) "__iter__") (some (.builtin "dict.__iter__")) := (Looks.ld hD).andThen (Looks.of_pure PySem.F.slot_dict_iter.lookup)
  unfold mergeMapping
  repeat (first | (simp only [lo, Bool.false_eq_true, if_false]) | lk)
  exact hq
theorem st_tryCatch {α : Type} {M : Model} {m' : Sem α} {k : Value → Sem α} {Q : α → Shared → Prop} (h : wpAny M A m' Q (fun e s' => wpAny M A (k e) Q E s') s) : wpAny M A (m'.tryCatch k) Q E s := wpAny_tryCatch h
theorem merged_empty {f : Value} {t : Sem Value} {D : Addr} {h : Heap} {g : Array GenState} {d : Drawn} {tk : Nat} {os : OsState} {Q : Addr → Shared → Prop}
    (ht : ∀ (Q' : Value → Shared → Prop) (E' : Value → Shared → Prop), Q' (.ref D) ⟨h.push emptyDict, g, d, tk, os⟩ → wpAny (model prog w) A t Q' E' ⟨h.push emptyDict, g, d, tk, os⟩)
    (hD : h.get? D = some (dictOf [] 0)) (lo : (D == sysModules) = false)
    (hq : Q h.objs.size ⟨h.push emptyDict, g, d, tk, os⟩) :
    wpAny (model prog w) A (mergedKeywords f [(none, t)]) Q E ⟨h, g, d, tk, os⟩ := by
  have hD' : (h.push emptyDict).get? D = some (dictOf [] 0) := Heap.get?_push_of_some _ hD
  have hN : (h.push emptyDict).get? h.objs.size = some (dictOf [] 0) := Heap.get?_push_size _ rfl
  unfold mergedKeywords
  repeat (first | (with_reducible refine ht _ _ ?_) | (with_reducible refine merge_empty hD' hN lo ?_) | (with_reducible refine st_tryCatch ?_) | (with_reducible refine wpAny_onRaise ?_) | lk)
  exact hq
theorem keywordsIn_empty {f : Value} {N : Addr} {h : Heap} {g : Array GenState} {d : Drawn} {tk : Nat} {os : OsState} {Q : List (Str × Value) → Shared → Prop} (hN : h.get? N = some (dictOf [] 0)) (hq : Q [] ⟨h, g, d, tk, os⟩) :
    wpAny (model prog w) A (keywordsIn f N) Q E ⟨h, g, d, tk, os⟩ := by
  unfold keywordsIn
  repeat lk
  exact hq
/-- f(x, **D) with D empty -/
theorem evalArgs_kw1 {f : Value} {x t : Sem Value} {v : Value} {D : Addr} {h : Heap} {g : Array GenState} {d : Drawn} {tk : Nat} {os : OsState} {Q : Args → Shared → Prop}
    (hx : ∀ (Q' : Value → Shared → Prop) (E' : Value → Shared → Prop), Q' v ⟨h, g, d, tk, os⟩ → wpAny (model prog w) A x Q' E' ⟨h, g, d, tk, os⟩)
    (ht : ∀ (Q' : Value → Shared → Prop) (E' : Value → Shared → Prop), Q' (.ref D) ⟨h.push emptyDict, g, d, tk, os⟩ → wpAny (model prog w) A t Q' E' ⟨h.push emptyDict, g, d, tk, os⟩)
    (hD : h.get? D = some (dictOf [] 0)) (lo : (D == sysModules) = false)
    (hq : Q ⟨[v], []⟩ ⟨h.push emptyDict, g, d, tk, os⟩) :
    wpAny (model prog w) A (evalArgs f true [(false, x)] [(none, t)]) Q E ⟨h, g, d, tk, os⟩ := by
  have hN : (h.push emptyDict).get? h.objs.size = some (dictOf [] 0) := Heap.get?_push_size _ rfl
  unfold evalArgs
  refine wpAny_bind (spliced_cons (hx _ _ (spliced_nil ?_)))
  repeat (first | (with_reducible refine merged_empty ht hD lo ?_) | (with_reducible refine keywordsIn_empty hN ?_) | lk)
  exact hq
end
end Mine
namespace Mine
section
variable {prog : Program} {w : World} {A : Around} {E : Value → Shared → Prop} {s : Shared} {K : Frag} {L a D : Addr} {h₀ : Heap} {m : Str → Option Value} {news : List (Addr × Obj)} {cn : Str} {cs : Scope} {ccd : Value} {cl : List (Str × Addr)} {f q : Addr} {v self : Value} {first : List Value} {xn dn : Str} {p1 p2 p3 pos : Pos}
theorem callWith_kw1 {Q : Value → Shared → Prop} (F : Fr h₀ L s.heap m) (X₀ : K.In h₀) (N : News h₀ L s.heap news) (hq : (q, methodObj (.ref f) self) ∈ news) (hk : fnIn K f = true) (hx : m xn = some v) (hd : m dn = some (.ref D)) (hD : (D, dictOf [] 0) ∈ news) (lo : (D == sysModules) = false)
    (h : ∀ n h', Fr h₀ L h' m → News h₀ L h' ((n, dictOf [] 0) :: news) → (∀ p ∈ news, p.1 < n) → wpAny (model prog w) A (call (.ref q) (first ++ [v])) Q E { s with heap := h' })
    (hks : cs.kind = .function := by rfl) (hxk : (envX cn cs L a ccd cl).kindOf xn = some .local := by rfl) (hxd : (xn == ("__debug__" : Str)) = false := by decide)
    (hdk : (envX cn cs L a ccd cl).kindOf dn = some .local := by rfl) (hdd : (dn == ("__debug__" : Str)) = false := by decide) :
    wpAny (model prog w) A (callWith pos (.ref q) first (backTo pos (starEach [.Name xn p1] (envX cn cs L a ccd cl))) (backToKw pos (keywordEach [⟨none, .Name dn p2, p3⟩] (envX cn cs L a ccd cl)))) Q E s := by
  have X : K.In s.heap := X₀.keeps F.keep
  have hDh := (N _ hD).1
  have h' := h s.heap.objs.size _ (F.push emptyDict) (N.push F emptyDict) (fun p hp => Heap.lt_size (N p hp).1)
  obtain ⟨hh, g, d, t, os⟩ := s
  unfold callWith
  refine wpAny_bind (wpAny_holding ?_)
  show wpAny _ _ (evalArgs (.ref q) true [(false, eval (.Name xn p1) (envX cn cs L a ccd cl))] [(none, do let v ← eval (.Name dn p2) (envX cn cs L a ccd cl); standAt pos; pure v)]) _ _ _
  refine evalArgs_kw1 (v := v) (D := D) (fun Q' E' q => nameX_L F hx q hks hxk hxd) (fun Q' E' q => wpAny_bind (nameX_L (F.push emptyDict) hd (wpAny_bind (wpAny_standAt (wpAny_pure q))) hks hdk hdd)) hDh lo ?_
  refine wpAny_bind (wpAny_standAt ?_)
  have k : ∀ b o, hh.get? b = some o → (hh.push emptyDict).get? b = some o := fun b o e => Heap.get?_push_of_some _ e
  obtain ⟨k, a, b⟩ := keeps_M (M := model prog w) hk _ (methP (h := hh.push emptyDict) (N.push F emptyDict) (.tail _ hq) (X.keeps k))
  refine wpAny_bind (b.at ?_)
  have tail : ∀ {t' : Sem Value}, wpAny (model prog w) A t' Q E ⟨hh.push emptyDict, g, d, t, os⟩ → wpAny (model prog w) A (t' >>= fun r => holding [r] point >>= fun _ => pure r) Q E ⟨hh.push emptyDict, g, d, t, os⟩ :=
    fun ht => wpAny_bind (wpAny_mono ht (fun r s₂ hr => wpAny_bind (wpAny_holding (wpAny_point (wpAny_pure hr)))) fun _ _ x => x)
  have marked (mk : Value) : wpAny (model prog w) A (callMarked mk (.ref q) (first ++ [v]) []) Q E ⟨hh.push emptyDict, g, d, t, os⟩ := by unfold callMarked; exact Calls.wpAny_keep h'
  rcases a with rfl | rfl | rfl
  · exact tail (marked _)
  · exact tail (wpAny_operating h')
  · exact tail (wpAny_operating h')
end
end Mine
namespace Mine
theorem entry_dga : entryFor table "dict.__getattribute__" = some Builtin.«object.__getattribute__» :=
  entryFor_alias (id' := "object.__getattribute__") (by rw [fastTable_eq_tree]; kernel_rfl) (by decide +kernel) (by decide +kernel) (by rw [fastTable_eq_tree]; kernel_rfl)
theorem dga_quiet : plainId "dict.__getattribute__" = true := by decide +kernel
theorem dga_kind : builtinKind "dict.__getattribute__" = some .slot := by decide +kernel
theorem dga_split : splitId "dict.__getattribute__" = some ("dict", "__getattribute__") := by decide +kernel
theorem dga_args (a b : Value) : argsOk "dict.__getattribute__" ⟨[a, b], []⟩ := by unfold argsOk; kernel_rfl
theorem dga_slot : Slot "dict" "__getattribute__" "dict.__getattribute__" := .of (owner := "dict") (n := "__getattribute__") (by rw [typeLookup_type, builtinLookup_eq_fast]; kernel_rfl) (by decide +kernel) (by decide +kernel) (by decide +kernel)
  (by first | exact .inl (by decide +kernel) | exact .inr (by decide +kernel)) (by rw [isSubtype_type]; kernel_rfl)

section
variable {prog : Program} {w : World} {A : Around} {E : Value → Shared → Prop} {s : Shared} {K : Frag} {x C f L : Addr} {ox : Obj} {name : Str} {expr : Bool} {h₀ : Heap} {m : Str → Option Value} {news : List (Addr × Obj)} {es : List DictEntry} {n : Nat} {Q : Value → Shared → Prop}
/-- a bound method of an object of a dict's subclass -/
theorem get_boundD (F : Fr h₀ L s.heap m) (X₀ : K.In h₀) (N : News h₀ L s.heap news) (I : InstAt s.heap x ox C (some (dictOf es n))) (hga : findIn K (.ref C) "__getattribute__" = some (some (.builtin "dict.__getattribute__"))) (hk : findIn K (.ref C) "__getattr__" = some none)
    (hh : hasDictIn K C = true) (hs : subIn K (.ref C) (.type "dict") = some true) (ha : findIn K (.ref C) name = some (some (.ref f))) (hf : isFn K (.ref f) = true)
    (hgf : specialIn K (.ref f) "__get__" = some (some (.builtin "function.__get__"))) (ht : takesIn K (.ref f) = some false) (hc : copiedNames.contains name = false) (hl : getL name es = some none)
    (h : ∀ q h', Fr h₀ L h' m → News h₀ L h' ((q, methodObj (.ref f) (.ref x)) :: news) → (∀ p ∈ news, p.1 < q) → Q (.ref q) { s with heap := h', toks := s.toks + 1 }) : wpAny (model prog w) A (getAttr (.ref x) name expr) Q E s := by
  have X : K.In s.heap := X₀.keeps F.keep
  have hfo := findObj_fn (od := dictOf es n) hh ha hgf ht hc (by show lookIn name (dictOf es n) = _; rw [lookIn_dict, hl])
  have h' := h s.heap.objs.size _ (F.push _) (N.push F (methodObj (.ref f) (.ref x))) fun p hp => Heap.lt_size (N p hp).1
  have tfn := beq_iff_eq.mp hf
  obtain ⟨hh', g, d, t, os⟩ := s
  have L0 := I.type (M := model prog w)
  have L1 := looks_findIn (M := model prog w) X hga
  have L2 := looks_findIn (M := model prog w) X hk
  have L3 := looks_find (M := model prog w) X I hfo
  have L4 : Looks (model prog w) hh' (isInstance (.ref x) (.type "dict")) true := L0.andThen (looks_subIn X hs)
  unfold getAttr getAttrBy
  refine wpAny_bind (wpAny_mkText (wpAny_holding (wpAny_bind (L0.at (wpAny_bind (L1.at ?_))))))
  show wpAny _ _ (getAttrByItsOwn (.ref x) (.str name t) (.ref C) (.builtin "dict.__getattribute__") true expr) _ _ _
  unfold getAttrByItsOwn hookBefore callGetattribute boundAndCalled
  refine wpAny_bind ?_
  show wpAny _ _ (typeLookup (.ref C) "__getattr__") _ _ _
  refine L2.at (wpAny_bind (wpAny_attempt (wpAny_holding ?_)))
  rw [show (expr && onTheHeap (.builtin "dict.__getattribute__")) = false from by cases expr <;> rfl]
  refine wpAny_bind (wpAny_of_eq (dga_slot.bind _) ?_)
  show wpAny _ _ (call (.builtin "dict.__getattribute__") [.ref x, .str name t]) _ _ _
  refine wpAny_call (codeAny_call_builtin dga_quiet entry_dga (@check_slot (model prog w) _ _ ⟨hh', g, d, t + 1, os⟩ "dict.__getattribute__" "dict" "__getattribute__" (.ref x) [.str name t] [] _ dga_kind dga_split L4 (dga_args _ _) ?_))
  unfold Builtin.«object.__getattribute__»
  refine wpAny_bind (m := slotArgs _ _ _) (wpAny_pure (wpAny_bind (wpAny_pure (wpAny_bind (L0.at (wpAny_bind (L3.at ?_)))))))
  dsimp only
  unfold bindTo
  repeat (first | (with_reducible refine wpAny_call ?_) | lk)
  refine fn_get (s := ⟨hh', g, d, t + 1, os⟩) X tfn ?_
  exact wpAny_pure (handed_on rfl h')
end
end Mine
end

/- text C2e -/
section
open PySem PySem.W PyProof.Rows PySem.Calls PyProof.V PySem.Spec
set_option maxRecDepth 100000
set_option profiler true
set_option profiler.threshold 2000
namespace Mine
abbrev itObj (l : Addr) (i : Nat) : Obj := { cls := .type "list_iterator", data := .fields #[.ref l, .int i 0] }
theorem li_slot_ga : Slot "list_iterator" "__getattribute__" "object.__getattribute__" := .of (owner := "object") (n := "__getattribute__") (by rw [typeLookup_type, builtinLookup_eq_fast]; kernel_rfl) (by decide +kernel) (by decide +kernel) (by decide +kernel)
  (by first | exact .inl (by decide +kernel) | exact .inr (by decide +kernel)) (by rw [isSubtype_type]; kernel_rfl)
theorem li_lk_class : typeLookup (.type "list_iterator") "__class__" = pure (some (.builtin "object.__class__")) := by rw [typeLookup_type, builtinLookup_eq_fast]; kernel_rfl
theorem li_sub_class_owner : isSubtype (.type "list_iterator") (.type (".".intercalate ("object.__class__".cutAt '.').dropLast)) = pure true := by
  rw [PySem.F.owner_object_class, isSubtype_type]; kernel_rfl
theorem li_sub_dict : isSubtype (.type "list_iterator") (.type "dict") = pure false := by rw [isSubtype_type]; kernel_rfl
theorem li_getattr_none : typeLookup (.type "list_iterator") "__getattr__" = pure none := by rw [typeLookup_type, builtinLookup_eq_fast]; kernel_rfl
theorem li_keys_none : typeLookup (.type "list_iterator") "keys" = pure none := by rw [typeLookup_type, builtinLookup_eq_fast]; kernel_rfl
theorem ty_dict : typeOf (.type "dict") = pure (.type "type") := by kernel_rfl
section
variable {prog : Program} {w : World} {A : Around} {E : Value → Shared → Prop} {h : Heap} {g : Array GenState} {d : Drawn} {t : Nat} {os : OsState} {a l : Addr} {i : Nat} {o : Obj}
theorem li_class_get {R : Result → Shared → Prop} (hx : h.get? a = some o) (hc : o.cls = .type "list_iterator") (hq : R (.ok (.ret (.type "list_iterator"))) ⟨h, g, d, t, os⟩) :
    codeAny (model prog w) A (.call (.builtin "getset_descriptor.__get__") ⟨[.builtin "object.__class__", .ref a, .type "list_iterator"], []⟩) R ⟨h, g, d, t, os⟩ := by
  have hT : (⟨h, g, d, t, os⟩ : Shared).TypeIs (.ref a) "list_iterator" := ⟨_, hx, hc⟩
  have hT5 : (⟨h, g, d, t, os⟩ : Shared).TypeIs (.builtin "object.__class__") "getset_descriptor" := PySem.F.typeOf_object_class
  have f8 := li_sub_class_owner
  refine codeAny_call_builtin PySem.F.slot_gs_get.plain PySem.F.entry_gs_get (PySem.F.slot_gs_get.check _ _ _ _ _ _ _ _ hT5 (PySem.F.args_gs_get _ _ _) ?_)
  repeat (any_goals (first | assumption | wp_step))
  refine ⟨Code.quiet_builtin _ (by decide +kernel), codeAny_builtin PySem.F.entry_object_class ?_⟩
  repeat (any_goals (first | assumption | wp_step))
theorem li_class_entry {tk : Tok} {Q : Fin → Shared → Prop} (hx : h.get? a = some o) (hc : o.cls = .type "list_iterator") (hq : Q (.done (.ret (.type "list_iterator"))) ⟨h, g, d, t, os⟩) :
    wpAny (model prog w) A (Builtin.«object.__getattribute__» ⟨[.ref a, .str "__class__" tk], []⟩) Q E ⟨h, g, d, t, os⟩ := by
  have hT : (⟨h, g, d, t, os⟩ : Shared).TypeIs (.ref a) "list_iterator" := ⟨_, hx, hc⟩
  have hT5 : (⟨h, g, d, t, os⟩ : Shared).TypeIs (.builtin "object.__class__") "getset_descriptor" := PySem.F.typeOf_object_class
  have f4 := li_lk_class
  have f5 := PySem.F.typeOf_object_class
  have f6 := PySem.F.slot_gs_get.lookup
  have f7 := PySem.F.slot_gs_set.lookup
  repeat (any_goals (first | assumption | wp_step))
  refine li_class_get hx hc ?_
  repeat (any_goals (first | assumption | wp_step))
theorem li_class_by {tk : Tok} {Q : Value → Shared → Prop} (hx : h.get? a = some o) (hc : o.cls = .type "list_iterator") (hq : Q (.type "list_iterator") ⟨h, g, d, t, os⟩) : wpAny (model prog w) A (getAttrBy (.ref a) (.str "__class__" tk) false) Q E ⟨h, g, d, t, os⟩ := by
  have hT : (⟨h, g, d, t, os⟩ : Shared).TypeIs (.ref a) "list_iterator" := ⟨_, hx, hc⟩
  have f2 := li_slot_ga.lookup
  have f3 := li_slot_ga.bind (.ref a)
  repeat (any_goals (first | assumption | wp_step))
  refine codeAny_call_builtin li_slot_ga.plain PySem.F.entry_object_getattribute (li_slot_ga.check _ _ _ _ _ _ _ _ (show (⟨h, g, d, t, os⟩ : Shared).TypeIs (.ref a) "list_iterator" from ⟨_, hx, hc⟩) (PySem.F.args_object_getattribute_2 _ _) (li_class_entry hx hc ?_))
  repeat (any_goals (first | assumption | wp_step))
theorem li_class_attr {Q : Option Value → Shared → Prop} (hx : h.get? a = some o) (hc : o.cls = .type "list_iterator") (hq : Q (some (.type "list_iterator")) ⟨h, g, d, t + 1, os⟩) : wpAny (model prog w) A (getAttr? (.ref a) "__class__") Q E ⟨h, g, d, t, os⟩ := by
  unfold getAttr? getAttrBy?
  repeat (any_goals (first | assumption | with_reducible apply li_class_by hx hc | wp_step))
theorem li_isinst_nested {dep : Int} {tk : Tok} {Q : Fin → Shared → Prop} (hx : h.get? a = some o) (hc : o.cls = .type "list_iterator") (hq : Q (.done (.ret (.bool false))) ⟨h, g, d, t + 1, os⟩) :
    wpAny (model prog w) A (Builtin.«isinstance.nested» ⟨[.ref a, .type "dict", .int dep tk], []⟩) Q E ⟨h, g, d, t, os⟩ := by
  have hT : (⟨h, g, d, t, os⟩ : Shared).TypeIs (.ref a) "list_iterator" := ⟨_, hx, hc⟩
  have hne : (Value.type "list_iterator" == Value.type "dict") = false := by decide
  have hty := ty_dict
  have hsub := li_sub_dict
  repeat (any_goals (first | assumption | with_reducible apply li_class_attr hx hc | wp_step))
theorem li_isinstance {Q : Value → Shared → Prop} (hx : h.get? a = some o) (hc : o.cls = .type "list_iterator") (hq : Q (.bool false) ⟨h, g, d, t + 1, os⟩) :
    wpAny (model prog w) A (call (.builtin "isinstance") [.ref a, .type "dict"]) Q E ⟨h, g, d, t, os⟩ := by
  have hT : (⟨h, g, d, t, os⟩ : Shared).TypeIs (.ref a) "list_iterator" := ⟨_, hx, hc⟩
  exact wpAny_call (codeAny_call_builtin PySem.F.plain_isinstance PySem.F.entry_isinstance (wpAny_of_eq (a := ()) (by kernel_rfl) (isinstance_outer (li_isinst_nested hx hc hq))))
theorem li_meets_miss (a l : Addr) (i : Nat) (u : Tok) :
    Meets (Builtin.«object.__getattribute__» ⟨[.ref a, .str "keys" u], []⟩) (fun A R s => s.heap.get? a = some (itObj l i) ∧ raisesAttr (.ref a) "keys" A R s) :=
  Meets.of_wp fun prog w A R s hs => by
    obtain ⟨hp, g, d, tk, os⟩ := s
    obtain ⟨hx, hs⟩ := hs
    have hT : (⟨hp, g, d, tk, os⟩ : Shared).TypeIs (.ref a) "list_iterator" := ⟨_, hx, rfl⟩
    have hmiss := li_keys_none
    have hname : (["__module__", "__name__", "__qualname__", "__doc__", "__annotations__"] : List Str).contains "keys" = false := by decide +kernel
    unfold Builtin.«object.__getattribute__»
    repeat (any_goals (first | assumption | wp_step))
    exact wpAny_raiseAttrError hs.1 hs.2 (attrMsg_fits (by decide +kernel) (by rw [sizeLine_eq]; decide +kernel))
theorem li_miss {Q : Value → Shared → Prop} (hx : h.get? a = some (itObj l i)) (hA : A.handled = none)
    (hE : ∀ h' tk e, Heap.NewAttrErr h h' e (.ref a) "keys" → E (.ref e) ⟨h', g, d, tk, os⟩) :
    wpAny (model prog w) A (getAttr (.ref a) "keys" true) Q E ⟨h, g, d, t, os⟩ := by
  have hT : ∀ tk', (⟨h, g, d, tk', os⟩ : Shared).TypeIs (.ref a) "list_iterator" := fun _ => ⟨_, hx, rfl⟩
  have f1 := sub_AttributeError
  have f3 := li_slot_ga.lookup
  have f4 := li_slot_ga.bind (.ref a)
  have f5 := li_getattr_none
  unfold getAttr getAttrBy
  repeat (any_goals (first | assumption | exact hT _ | ((with_reducible show wpAny _ _ (call (Value.builtin "object.__getattribute__") _ _) _ _ _); refine call_meets li_slot_ga (hT _) PySem.F.entry_object_getattribute (PySem.F.args_object_getattribute_2 _ _) (li_meets_miss a l i _) ⟨hx, hA, fun h' tk' e hx' => ?_⟩) | wp_step))
  obtain ⟨t', u', he⟩ := hx'.there
  show wpAny _ _ (getattributeRaised _ _ _ _ _ _ _) _ _ _
  unfold getattributeRaised
  repeat (any_goals (first | assumption | wp_step))
  exact hE _ _ _ hx'
end
end Mine
end

/- text C4 -/
section
open PySem PySem.W PyProof.Rows PySem.Calls PyProof.V PySem.Spec
set_option maxRecDepth 100000
namespace Mine

abbrev frs (l : List Env) : List Addr := l.filterMap (·.frame)
/-- all stands, but that the frames' objects may have turned in their slots -/
structure Tn (fs : List Addr) (h h' : Heap) : Prop where
  other : ∀ b o, h.get? b = some o → b ∉ fs → h'.get? b = some o
  frame : ∀ b o, h.get? b = some o → b ∈ fs → ∃ sl, h'.get? b = some { o with slots := sl }
theorem Tn.refl {fs : List Addr} {h : Heap} : Tn fs h h := ⟨fun _ _ e _ => e, fun _ o e _ => ⟨o.slots, e⟩⟩
theorem Tn.of_stays {fs : List Addr} {h h' : Heap} (k : h.StaysIn h') : Tn fs h h' := ⟨fun _ _ e _ => k _ _ e, fun _ o e _ => ⟨o.slots, k _ _ e⟩⟩
theorem Tn.trans {fs : List Addr} {h h₁ h₂ : Heap} (x : Tn fs h h₁) (y : Tn fs h₁ h₂) : Tn fs h h₂ :=
  ⟨fun b o e m => y.other b o (x.other b o e m) m, fun b o e m => by
    obtain ⟨s1, h1⟩ := x.frame b o e m
    obtain ⟨s2, h2⟩ := y.frame b _ h1 m
    exact ⟨s2, h2⟩⟩
theorem Tn.of_turn {fs : List Addr} {h h' : Heap} (x : KtsTurn fs h h') : Tn fs h h' := ⟨x.other, x.frame⟩
theorem Tn.mono {fs fs' : List Addr} {h h' : Heap} (x : Tn fs h h') (s : ∀ b ∈ fs, b ∈ fs') : Tn fs' h h' :=
  ⟨fun b o e m => x.other b o e (fun q => m (s b q)), fun b o e _ => by
    by_cases q : b ∈ fs
    · exact x.frame b o e q
    · exact ⟨o.slots, x.other b o e q⟩⟩
theorem Tn.up {fs : List Addr} {h h' : Heap} (x : Tn fs h h') : h.UpToSlots h' := fun b o e _ => by
  by_cases q : b ∈ fs
  · exact x.frame b o e q
  · exact ⟨o.slots, x.other b o e q⟩
/-- through a wider heap in between: the sub-heap's objects -/
theorem Tn.sub {fs : List Addr} {g h h' : Heap} (k : g.StaysIn h) (x : Tn fs h h') : Tn fs g h' := ⟨fun b o e m => x.other b o (k b o e) m, fun b o e m => x.frame b o (k b o e) m⟩

section
variable {A₀ : Around} {base g G h₅ : Heap} {outer : List Env} {L : Addr} {m : Str → Option Value} {env : Env} {news : List (Addr × Obj)} {K : Frag} {p : Program} {loose : List Str} {mean : ExcName → Option Value} {mg mb : Str → Option Value}
theorem frs_mem {b : Addr} (hf : env.frame = some L) (hm : b ∈ frs (env :: outer)) : b = L ∨ b ∈ frs outer := by
  obtain ⟨env', he, hf'⟩ := List.mem_filterMap.mp hm
  rcases List.mem_cons.mp he with rfl | he
  · exact .inl (Option.some.inj (hf'.symm.trans hf))
  · exact .inr (List.mem_filterMap.mpr ⟨env', he, hf'⟩)
/-- the ground anew, behind a turn of the frames -/
theorem reground (B : Below A₀ base outer g) (F : Fr g L G m) (hf : env.frame = some L) (T : Tn (frs (env :: outer)) G h₅) :
    ∃ g', KtsTurn (frs outer) g g' ∧ Fr g' L h₅ m ∧ Below A₀ base outer g' := by
  obtain ⟨T', S⟩ := kts_turn_at (h := h₅) (fs := frs outer) (g := g)
    (fun b hb => by
      obtain ⟨_, o, ho, _⟩ := B.frames.mem hb
      exact ⟨o, ho⟩)
    (fun b o e nm => T.other b o (F.keep b o e) (fun hm => by
      rcases frs_mem hf hm with z | z
      · rw [z, kts_self F] at e
        cases e
      · exact nm z))
    (fun b o e hm => T.frame b o (F.keep b o e) (by
      obtain ⟨env', he, hf'⟩ := List.mem_filterMap.mp hm
      exact List.mem_filterMap.mpr ⟨env', .tail _ he, hf'⟩))
  refine ⟨_, T', ⟨T.up.ns F.ns, S, by rw [T'.size]; exact F.above⟩, ⟨B.stack, fun b o e => T'.other b o (B.stays b o e) (fun hm => by
    rw [(B.frames.mem hm).1] at e
    cases e), B.frames.of_keeps fun b o e _ => ?_⟩⟩
  obtain ⟨sl, hs⟩ := T'.up e
  exact ⟨_, hs, rfl⟩
theorem News.turn {g' : Heap} (B : Below A₀ base outer g) (hf : env.frame = some L) (N : News g L G news) (T : Tn (frs (env :: outer)) G h₅) (T' : KtsTurn (frs outer) g g') : News g' L h₅ news := fun p hp => by
  refine ⟨T.other _ _ (N p hp).1 (fun hm => ?_), (N p hp).2.1, T'.none_ _ (N p hp).2.2⟩
  rcases frs_mem hf hm with z | z
  · exact (N p hp).2.1 z
  · obtain ⟨o, ho, _⟩ := (B.frames.mem z).2
    rw [(N p hp).2.2] at ho
    cases ho
theorem list_turn {fs : List Addr} {g g' : Heap} (T : Tn fs g g') {l : Addr} {items : Array Value} (x : g.IsList l items) : g'.IsList l items := by
  obtain ⟨o, ho, hc, n, hd⟩ := x
  by_cases q : l ∈ fs
  · obtain ⟨sl, hs⟩ := T.frame l o ho q
    exact ⟨_, hs, hc, n, hd⟩
  · exact ⟨o, T.other l o ho q, hc, n, hd⟩
end
section
variable {M : Model} {A : Around} {E : Value → Shared → Prop} {s : Shared}
theorem noteFrame_firstW {base : Heap} {env : Env} {outer : List Env} {L e : Addr} {oe : Obj} {vs : Array Value} {a0 : Value} {Q : Unit → Shared → Prop}
    (hfr : A.frames = some (env :: outer)) (hl : s.heap.FunFrames base (env :: outer)) (hf : env.frame = some L)
    (he : s.heap.get? e = some oe) (hkb : base.StaysIn s.heap) (hen : base.get? e = none) (hd : oe.data = .fields vs) (h1 : vs[1]? = some .none) (h0 : vs[0]? = some a0)
    (h : ∀ h', Heap.HeldW base (env :: outer) e oe.cls a0 L h' → s.heap.UpToSlots h' → Q () { s with heap := h' }) : wpAny M A (noteFrame (.ref e) env) Q E s := by
  unfold noteFrame
  simp only [hf]
  refine wpAny_bind (wpAny_field he hd h1 ?_)
  rw [if_neg (by decide)]
  refine wpAny_entryW hfr hl hf he hkb hen hd (Array.getElem?_eq_some_iff.mp h1).1 h0 fun h' hN => ?_
  obtain ⟨k1, k2, k3, k4⟩ := hN
  exact h h' ⟨k1, hen, k2, k3⟩ k4
end
section
variable {prog : Program} {w : World} {A₀ : Around} {E : Value → Shared → Prop} {s' : Shared} {base g h : Heap} {outer : List Env} {L a e : Addr} {m : Str → Option Value} {name : Str} {scope : Scope} {cd : Value}
  {b₀ : Stmt} {suite : List Stmt} {pos np : Pos} {rest : List ExceptHandler} {Q : Flow → Shared → Prop} {KF : Frag}
  {p : Program} {loose : List Str} {mean : ExcName → Option Value} {mg mb : Str → Option Value} {x : Str} {X T' : String}
/-- an exception that the interpreter raises in a frame of any depth, met by the frame's own clause -/
theorem caught_new (K : Below A₀ base outer g) (F : Fr g L h m) (hx : Heap.NewExcOf h s'.heap e X) (hz : ∃ oe vs a0, s'.heap.get? e = some oe ∧ oe.data = .fields vs ∧ vs[0]? = some a0) (XB : KF.In base) (TB : Top p loose mean mg mb base)
    (ex : nsIn KF mainGlobals x = some none) (hv : bootBuiltins x = some (.type T')) (hn' : x ≠ "__name__")
    (hexc : isSubtype (.type T') (.type "BaseException") = pure true) (hnt : isSubtype (.type ((Manifest.find? T').elim "type" fun y => y.metatype)) (.type "tuple") = pure false) (hsub : isSubtype (.type X) (.type T') = pure true)
    (hk : scope.kind = .function) (hxk : (envOf name scope L a cd).kindOf x = some .globalImplicit) (hd : (x == ("__debug__" : Str)) = false)
    (hE : PassesOwnAt (model prog w) ((A₀.deeper (envOf name scope L a cd)).mark (some (.ref e))) (A₀.deeper (envOf name scope L a cd)) (envOf name scope L a cd) E)
    (k : ∀ h' g', KtsTurn (frs outer) g g' → Fr g' L h' m → Tn (frs (envOf name scope L a cd :: outer)) h h' → Below A₀ base outer g' → KF.In g' → Top p loose mean mg mb g' →
      wpAny (model prog w) ((A₀.deeper (envOf name scope L a cd)).mark (some (.ref e))) (execs (b₀ :: suite) (envOf name scope L a cd)) Q E { s' with heap := h' }) :
    wpAny (model prog w) (A₀.deeper (envOf name scope L a cd)) (noteFrame (.ref e) (envOf name scope L a cd))
      (fun _ s₂ => wpAny (model prog w) (A₀.deeper (envOf name scope L a cd)) (setFlight (.ref e) none) (fun _ s₃ =>
        wpAny (model prog w) (A₀.deeper (envOf name scope L a cd)) (handleBy (.ref e) (envOf name scope L a cd) (.ExceptHandler (some (.Name x np)) none (b₀ :: suite) pos :: rest)) Q E s₃) E s₂) E s' := by
  have K' := K.push (name := name) (a := a) (cd := cd) F hk
  have hin : ∀ env ∈ (envOf name scope L a cd :: outer), ∀ b, env.frame = some b → b ∈ frs (envOf name scope L a cd :: outer) := fun env he b hb => List.mem_filterMap.mpr ⟨env, he, hb⟩
  obtain ⟨oe, vs, he, hc, hdat, h1⟩ := hx.there
  obtain ⟨oe', vs', a0, he', hdat', h0⟩ := hz
  rw [he] at he'
  obtain rfl := Option.some.inj he'
  rw [hdat] at hdat'
  obtain rfl := (Data.fields.inj hdat')
  have hen : (hideAll h (frs (envOf name scope L a cd :: outer))).get? e = none := by
    cases q : (hideAll h (frs (envOf name scope L a cd :: outer))).get? e with
    | none => rfl
    | some o => have := of_hideAll _ q; rw [hx.new] at this; cases this
  have hB : ∀ {h' : Heap}, (hideAll h (frs (envOf name scope L a cd :: outer))).StaysIn h' → h.UpToSlots h' → Tn (frs (envOf name scope L a cd :: outer)) h h' := fun k u =>
    ⟨fun b o e m => k b o (hideAll_get _ e m), fun b o e m => by
      obtain ⟨_, o', ho', hd'⟩ := K'.frames.mem m
      rw [e] at ho'
      cases ho'
      exact u b o e hd'⟩
  refine noteFrame_firstW (base := hideAll h (frs (envOf name scope L a cd :: outer))) K'.stack ((funFrames_hide K'.frames hin).of_keeps fun b o hb _ => ⟨o, hx.keeps b o hb, rfl⟩) rfl he (fun b o e => hx.keeps b o (of_hideAll _ e)) hen hdat h1 h0 fun h₁ hheld hu₁ => ?_
  refine wpAny_landsW hheld fun h₂ hfl hu₂ => ?_
  have up₂ := ((Heap.UpToSlots.of_keeps hx.keeps).trans hu₁).trans hu₂
  have T₂ := hB hfl.1 up₂
  obtain ⟨g₂, KT₂, F₂, K₂⟩ := reground K F rfl T₂
  have X₂ : KF.In g₂ := XB.keeps K₂.stays
  have P₂ : TopRead p loose mg mb g₂ := topRead_of (TB.keeps K₂.stays)
  obtain ⟨ob, hob, hobc⟩ := hfl.there
  rw [hc] at hobc
  refine wpAny_handleBy_builtin (X := X) (T := T') (b := true) hexc hnt hsub (name_B F₂ X₂ P₂ ex hv hn' ⟨rfl, ⟨ob, hob, hobc⟩, ?_⟩ hk hxk hd)
  refine lands_againW hfl fun h₃ hfl₃ hu₃ => ?_
  have T₃ := hB hfl₃.1 (up₂.trans hu₃)
  obtain ⟨g₃, KT₃, F₃, K₃⟩ := reground K F rfl T₃
  exact wpAny_passesOwnAt hE (k h₃ g₃ KT₃ F₃ T₃ K₃ (XB.keeps K₃.stays) (TB.keeps K₃.stays))
end
end Mine
end

/- text C5 -/
section
open PySem PySem.W PyProof.Rows PySem.Calls PyProof.V PySem.Spec
set_option maxRecDepth 100000
namespace Mine
theorem ae_exc : isSubtype (.type "AttributeError") (.type "BaseException") = pure true := by rw [isSubtype_type]; kernel_rfl
theorem ae_notTuple : isSubtype (.type ((Manifest.find? "AttributeError").elim "type" fun y => y.metatype)) (.type "tuple") = pure false := by
  rw [show ((Manifest.find? "AttributeError").elim "type" fun y => y.metatype) = "type" from by decide +kernel, isSubtype_type]; kernel_rfl
local macro_rules | `(tactic| walk_at "call builtin:isinstance") => `(tactic| (k_here; (with_reducible show wpAny _ _ (call (Value.builtin "isinstance") [Value.ref _, Value.type "dict"]) _ _ _); refine li_isinstance (by assumption) rfl ?_))

set_option maxHeartbeats 4000000 in
theorem ismap_call {w : World} {mean : ExcName → Option Value} {mg mb : Str → Option Value} {A A₀ : Around} {env : Env} {outer : List Env} {base h₀ : Heap} {L : Addr} {m : Str → Option Value} {s : Shared} {Q E : Value → Shared → Prop} {l it : Addr} {i : Nat}
    (B : Below A₀ base outer h₀) (F : Fr h₀ L s.heap m) (X : (Mine.hd.heap_39 w.params).In h₀) (T : Top PV PL mean mg mb h₀) (XB : (Mine.hd.heap_39 w.params).In base) (TB : Top PV PL mean mg mb base)
    (hA : A.frames = some (env :: outer)) (hf : env.frame = some L) (hke : env.scope.kind = .function) (hh : A.handled = none) (hd : A.depth < recursionLimit)
    (hit : s.heap.get? it = some (itObj l i))
    (ret : ∀ h' tk', Tn (frs (env :: outer)) s.heap h' → Q (.bool false) { s with heap := h', toks := tk' }) :
    wpAny (model PP w) A (call (.ref 66) [.ref it]) Q E s := by
  w_top off
  have : PySem.Challenge.rw_dm5011_01 = PySem.Challenge.rw_dm5011_01 ∧ Mine.hd.heap_39 = Mine.hd.heap_39 := by k_fill; exact ⟨rfl, rfl⟩
  clear this
  refine wpAny_call ?_
  k_dflt (refine' callS B F X T hA hf hke ?k6 ?k7 hd ?k9 ?kB ?_ ?c2 ?c3 ?c4 ?c5; (case k6 => k_is); (case k7 => k_is); (case k9 => exact BindsTo.of_eq rfl); (case c5 => exact rfl); (case kB => exact locs rfl); (case c2 => decide); (case c3 => exact rfl); (case c4 => exact rfl))
  intro L' h' F' eL' N' B' X' T'
  dsimp only
  have hit' : h'.get? it = some (itObj l i) := F'.keep _ _ hit
  clear B F X T
  try k_fold
  k_steps
  refine li_miss hit' hh ?_
  intro h2 tk2 e hx
  refine caught_new (T' := "AttributeError") B' F' hx.of ?_ XB TB ?_ PyProof.Rows.Boot.«AttributeError» ?_ ae_exc ae_notTuple sub_AttributeError ?_ ?_ ?_ ?_ ?_
  · obtain ⟨t, u, he⟩ := hx.there
    exact ⟨_, _, _, he, rfl, rfl⟩
  · k_dflt k_is
  · decide
  · rfl
  · rfl
  · decide
  · passes_own
  intro h3 g3 KT F3 T3 B3 X3 P3
  k_steps
  all_goals (
    dsimp only
    exact ret _ _ ((Tn.of_turn KT).trans (Tn.of_stays F3.keep)))
end Mine
end

/- text C6 -/
section
open PySem PySem.W PyProof.Rows PySem.Calls PyProof.V PySem.Spec
set_option maxRecDepth 100000
namespace Mine
def ent (x : Int × Int × Tok × Tok) : DictEntry := ⟨hashInt x.1, .int x.1 x.2.2.1, .int x.2.1 x.2.2.2⟩
/-- the entries of a dict of counts -/
def CE (c : List (Int × Int)) (es : Array DictEntry) : Prop := ∃ l : List (Int × Int × Tok × Tok), es = (l.map ent).toArray ∧ c = l.map fun x => (x.1, x.2.1)
theorem CE.nil : CE [] #[] := ⟨[], rfl, rfl⟩
theorem CE.size {c : List (Int × Int)} {es : Array DictEntry} (h : CE c es) : es.size = c.length := by
  obtain ⟨l, rfl, rfl⟩ := h; simp
theorem CE.keys {c : List (Int × Int)} {es : Array DictEntry} (h : CE c es) : IntKeys es := by
  obtain ⟨l, rfl, rfl⟩ := h
  intro e he
  rw [List.mem_toArray] at he
  obtain ⟨x, _, rfl⟩ := List.mem_map.mp he
  exact ⟨x.1, x.2.2.1, rfl, rfl⟩
theorem CE.find {c : List (Int × Int)} {es : Array DictEntry} (h : CE c es) (k : Int) : (es.findIdx? fun e => Value.isInt k e.key) = c.findIdx? fun p => decide (p.1 = k) := by
  obtain ⟨l, rfl, rfl⟩ := h
  simp only [List.findIdx?_toArray, List.findIdx?_map]
  congr 1
theorem find_put_none {c : List (Int × Int)} {k : Int} (h : (c.findIdx? fun p => decide (p.1 = k)) = none) (v : Int) : kdfPut c k v = c ++ [(k, v)] ∧ kdfLook c k 0 = 0 := by
  have h' := List.findIdx?_eq_none_iff.mp h
  have ha : c.any (fun p => decide (p.1 = k)) = false := by
    rw [List.any_eq_false]; intro x hx; rw [h' x hx]; decide
  refine ⟨by unfold kdfPut; rw [ha]; rfl, ?_⟩
  unfold kdfLook
  rw [List.find?_eq_none.mpr fun x hx => by rw [h' x hx]; decide]
  rfl
theorem CE.put_none {c : List (Int × Int)} {es : Array DictEntry} (h : CE c es) {k : Int} (hn : (c.findIdx? fun p => decide (p.1 = k)) = none) (t u : Tok) : CE (kdfPut c k (kdfLook c k 0 + 1)) (es.push ⟨hashInt k, .int k t, .int 1 u⟩) := by
  rw [(find_put_none hn _).1, (find_put_none hn 0).2]
  obtain ⟨l, rfl, rfl⟩ := h
  exact ⟨l ++ [(k, 1, t, u)], by simp [ent], by simp⟩
theorem map_put {l : List (Int × Int × Tok × Tok)} {k v : Int} {u : Tok} {i : Nat} (hn : (l.map (·.1)).Nodup) (hi : l.findIdx? (fun x => decide (x.1 = k)) = some i) :
    (l.modify i fun x => (x.1, v, x.2.2.1, u)).map (fun x => (x.1, x.2.1)) = (l.map fun x => (x.1, x.2.1)).map fun p => if decide (p.1 = k) then (p.1, v) else p := by
  induction l generalizing i with
  | nil => simp at hi
  | cons a l ih =>
    have hn' := List.nodup_cons.mp (by simpa using hn : (a.1 :: l.map (·.1)).Nodup)
    rw [List.findIdx?_cons] at hi
    by_cases q : a.1 = k
    · simp only [q, decide_true, if_true, Option.some.injEq] at hi
      subst hi
      simp only [List.modify_zero_cons, List.map_cons, q, decide_true, if_true, List.cons.injEq, true_and]
      symm
      rw [List.map_congr_left (g := id) ?_, List.map_id]
      intro p hp
      obtain ⟨x, hx, rfl⟩ := List.mem_map.mp hp
      have : x.1 ≠ k := fun e => hn'.1 (q ▸ e ▸ List.mem_map.mpr ⟨x, hx, rfl⟩)
      simp [this]
    · simp only [q, decide_false, Bool.false_eq_true, if_false, Option.map_eq_some_iff] at hi
      obtain ⟨j, hj, rfl⟩ := hi
      simp only [List.modify_succ_cons, List.map_cons, q, decide_false, Bool.false_eq_true, if_false]
      rw [ih hn'.2 hj]
theorem CE.put_some {c : List (Int × Int)} {es : Array DictEntry} (h : CE c es) (hn : (c.map (·.1)).Nodup) {k : Int} {i : Nat} (hi : (c.findIdx? fun p => decide (p.1 = k)) = some i) (v : Int) (u : Tok) :
    CE (kdfPut c k v) (es.modify i fun e => { e with val := .int v u }) := by
  obtain ⟨l, rfl, rfl⟩ := h
  have hi' : l.findIdx? (fun x => decide (x.1 = k)) = some i := by rw [← hi, List.findIdx?_map]; rfl
  have ha : (l.map fun x => (x.1, x.2.1)).any (fun p => decide (p.1 = k)) = true := by
    rw [List.any_eq_true]
    obtain ⟨hlt, hx, _⟩ := List.findIdx?_eq_some_iff_getElem.mp hi
    exact ⟨_, List.getElem_mem hlt, hx⟩
  refine ⟨l.modify i fun x => (x.1, v, x.2.2.1, u), ?_, ?_⟩
  · apply Array.ext'
    simp only [Array.toList_modify]
    apply List.ext_getElem?
    intro j
    simp only [List.getElem?_map, List.getElem?_modify]
    by_cases q : i = j
    · subst q; cases l[i]? <;> simp [ent]
    · simp [q]
  · unfold kdfPut
    rw [ha, if_pos rfl, map_put (by rw [List.map_map] at hn; exact hn) hi']
theorem CE.at {c : List (Int × Int)} {es : Array DictEntry} (h : CE c es) {k : Int} {i : Nat} (hi : (c.findIdx? fun p => decide (p.1 = k)) = some i) : ∃ e t, es[i]? = some e ∧ e.val = .int (kdfLook c k 0) t := by
  obtain ⟨l, rfl, rfl⟩ := h
  obtain ⟨hlt, hx, hb⟩ := List.findIdx?_eq_some_iff_getElem.mp hi
  have hlt' : i < l.length := by simpa using hlt
  refine ⟨ent l[i], l[i].2.2.2, by simp [hlt'], ?_⟩
  unfold kdfLook
  have hf : (l.map fun x => (x.1, x.2.1)).find? (fun p => decide (p.1 = k)) = some (l[i].1, l[i].2.1) := by
    rw [List.find?_eq_some_iff_getElem]
    exact ⟨by simpa using hx, i, hlt, by simp, fun j hj => by simpa using hb j hj⟩
  rw [hf]
  rfl
theorem put_keys_nodup {c : List (Int × Int)} (hn : (c.map (·.1)).Nodup) (k v : Int) : ((kdfPut c k v).map (·.1)).Nodup := by
  unfold kdfPut
  split
  · rw [List.map_map, show ((fun p : Int × Int => p.1) ∘ fun p : Int × Int => if decide (p.1 = k) then (p.1, v) else p) = (·.1) from by funext p; simp only [Function.comp]; split <;> rfl]
    exact hn
  · rename_i h
    rw [List.map_append, List.nodup_append]
    refine ⟨hn, by simp, ?_⟩
    intro a ha b hb
    simp only [List.map_cons, List.map_nil, List.mem_singleton] at hb
    subst hb
    rintro rfl
    obtain ⟨x, hx, he⟩ := List.mem_map.mp ha
    exact h (List.any_eq_true.mpr ⟨x, hx, decide_eq_true he⟩)

theorem tally_nodup_from (ns : List Int) : ∀ c : List (Int × Int), (c.map (·.1)).Nodup → ((ns.foldl (fun c n => kdfPut c n (kdfLook c n 0 + 1)) c).map (·.1)).Nodup := by
  induction ns with
  | nil => intro c h; exact h
  | cons n ns ih => intro c h; exact ih _ (put_keys_nodup h _ _)
theorem tally_nodup (ns : List Int) : ((tally ns).map (·.1)).Nodup := tally_nodup_from ns [] List.nodup_nil

theorem entry_ce : entryFor table "_collections._count_elements" = some Builtin.«_collections._count_elements» := entryFor_of_tree (by kernel_rfl)
theorem entry_ced : entryFor table "_collections._count_elements.direct" = some Builtin.«_collections._count_elements.direct» := entryFor_of_tree (by kernel_rfl)
theorem plain_ce : plainId "_collections._count_elements" = true := by decide +kernel
theorem plain_ced : plainId "_collections._count_elements.direct" = true := by decide +kernel
theorem args_ce (a b : Value) : argsOk "_collections._count_elements" ⟨[a, b], []⟩ := by unfold argsOk; kernel_rfl
section
variable {prog : Program} {w : World} {A : Around} {E : Value → Shared → Prop}
theorem count_loop {C x dx it l : Addr} {vs : List Value} {R : Result → Shared → Prop} {g : Array GenState} {d : Drawn} {os : OsState} (hh : A.handled = none) (hs : (x == sysModules) = false) (hxi : x ≠ it) (hxl : x ≠ l) (hil : it ≠ l) (hn : vs.length ≤ 4096) :
    ∀ (ns : List Int) (i : Nat) (h : Heap) (tk : Tok) (c : List (Int × Int)) (es : Array DictEntry) (n : Nat), IntsAre (vs.drop i) ns → h.get? x = some (cntObj C dx es n) → CE c es → (c.map (·.1)).Nodup → c.length ≤ i → h.IsListIter it l i → h.IsList l vs.toArray →
    (∀ h' tk' es' n', h'.get? x = some (cntObj C dx es' n') → CE (ns.foldl (fun c n => kdfPut c n (kdfLook c n 0 + 1)) c) es' → (∀ b o, b ≠ x → b ≠ it → h.get? b = some o → h'.get? b = some o) → R (.ok (.ret .none)) ⟨h', g, d, tk', os⟩) →
    codeAny (model prog w) A (.builtin "_collections._count_elements.direct" ⟨[.ref x, .ref it], []⟩) R ⟨h, g, d, tk, os⟩ := by
  intro ns
  induction ns with
  | nil =>
    intro i h tk c es n hi hx hc hnd hlen hit hl ret
    refine codeAny_builtin entry_ced ?_
    rw [Around.under_plainId plain_ced]
    unfold Builtin.«_collections._count_elements.direct» notTheModulesDict
    have hi' : vs.drop i = [] := by cases q : vs.drop i with
      | nil => rfl
      | cons _ _ => rw [q] at hi; cases hi
    simp only [hs, Bool.false_eq_true, if_false]
    refine wpAny_bind (wpAny_pure (wpAny_bind (wpAny_pyNext_list_end hh hit hl ?_ ?_)))
    · simpa using hi'
    · intro h' hb
      exact wpAny_pure (ret h' _ es n (hb x _ hxi hx) hc fun b o _ q e => hb b o q e)
  | cons k ns ih =>
    intro i h tk c es n hi hx hc hnd hlen hit hl ret
    refine codeAny_builtin entry_ced ?_
    rw [Around.under_plainId plain_ced]
    unfold Builtin.«_collections._count_elements.direct» notTheModulesDict
    obtain ⟨v, q, hi1⟩ : ∃ v, vs.drop i = v :: vs.drop (i + 1) ∧ IntsAre (v :: vs.drop (i + 1)) (k :: ns) := by
      cases q : vs.drop i with
      | nil => rw [q] at hi; cases hi
      | cons v r =>
        rw [q] at hi
        have : vs.drop (i + 1) = r := by rw [← List.drop_drop, q]; rfl
        exact ⟨v, by rw [this], by rw [this]; exact hi⟩
    obtain ⟨t, rfl, hi2⟩ : ∃ t, v = .int k t ∧ IntsAre (vs.drop (i + 1)) ns := by
      cases hi1 with | cons _ t hi2 => exact ⟨t, rfl, hi2⟩
    have hlt : i < vs.length := by
      rcases Nat.lt_or_ge i vs.length with z | z
      · exact z
      · rw [List.drop_eq_nil_of_le z] at q; cases q
    have hv : vs[i]? = some (.int k t) := by rw [← List.head?_drop, q]; rfl
    simp only [hs, Bool.false_eq_true, if_false]
    refine wpAny_bind (wpAny_pure (wpAny_bind (wpAny_pyNext_list_item hit hl (x := .int k t) (by simpa using hv) ?_)))
    intro h1 hit1 sb
    have hx1 : h1.get? x = some (cntObj C dx es n) := (sb.2 x hxi).trans hx
    have hl1 : h1.IsList l vs.toArray := hl.extBut sb.extBut hil.symm
    have go : ∀ es' tk', CE (kdfPut c k (kdfLook c k 0 + 1)) es' → ∀ h2 n', h2.get? x = some (cntObj C dx es' n') → (∀ b o, b ≠ x → h1.get? b = some o → h2.get? b = some o) → (Code.builtin "_collections._count_elements.direct" ⟨[.ref x, .ref it], []⟩).quiet = true ∧ codeAny (model prog w) A (.builtin "_collections._count_elements.direct" ⟨[.ref x, .ref it], []⟩) R ⟨h2, g, d, tk', os⟩ := by
      intro es' tk' hc' h2 n' hx2 hk2
      refine ⟨plainId_quiet plain_ced _, ih (i + 1) h2 tk' _ es' n' hi2 hx2 hc' (put_keys_nodup hnd _ _) ?_ ?_ ?_ ?_⟩
      · have := kdfPut_len c k (kdfLook c k 0 + 1); omega
      · obtain ⟨o, ho, r⟩ := hit1
        exact ⟨o, hk2 _ _ hxi.symm ho, r⟩
      · obtain ⟨o, ho, r⟩ := hl1
        exact ⟨o, hk2 _ _ hxl.symm ho, r⟩
      · intro h' tk'' es'' n'' a1 a2 a3
        refine ret h' tk'' es'' n'' a1 a2 fun b o e1 e2 e3 => a3 b o e1 e2 (hk2 b o e1 ((sb.2 b e2).trans e3))
    have hsz : es.size ≤ sizeLine := by rw [hc.size, sizeLine_eq]; omega
    refine wpAny_bind (wpAny_holding (wpAny_bind (wpAny_pyHash_int (wpAny_bind (wpAny_dictFind_int hx1 rfl hc.keys ?_)))))
    rw [hc.find]
    cases hf : c.findIdx? fun p => decide (p.1 = k) with
    | none =>
      dsimp only
      refine wpAny_bind (wpAny_mkInt (wpAny_holding ?_))
      unfold dictSetHashed
      refine wpAny_holding (wpAny_bind (wpAny_dictFind_int hx1 rfl hc.keys ?_))
      rw [hc.find, hf]
      dsimp only
      refine wpAny_bind (wpAny_rule (wpAny_updateDictKeys (hz := hsz) hx1 rfl ?_))
      refine wpAny_pure ?_
      exact go _ _ (hc.put_none hf t _) _ (n + 1) (Heap.get?_update_self _ hx1 rfl) (fun b o ne e => (Heap.get?_update_ne _ _ _ _ ne).trans e)
    | some j =>
      dsimp only
      obtain ⟨e, u, he, hval⟩ := hc.at hf
      refine wpAny_bind (wpAny_dictEntries hx1 rfl ?_)
      rw [he]
      dsimp only
      rw [hval]
      refine wpAny_bind (wpAny_holding (wpAny_bind (wpAny_mkInt (AutoIntOps.add_0 ?_))))
      dsimp only [Made.post]
      refine wpAny_holding ?_
      unfold dictSetHashed
      refine wpAny_holding (wpAny_bind (wpAny_dictFind_int hx1 rfl hc.keys ?_))
      rw [hc.find, hf]
      dsimp only
      refine wpAny_bind (wpAny_rule (wpAny_bind (wpAny_updateDict hx1 rfl (wpAny_point ?_))))
      refine wpAny_pure ?_
      exact go _ _ (hc.put_some hnd hf _ _) _ n (Heap.get?_update_self _ hx1 rfl) (fun b o ne e => (Heap.get?_update_ne _ _ _ _ ne).trans e)
theorem count_call {K : Frag} {C x dx it l : Addr} {od : Obj} {vs : List Value} {ns : List Int} {Q : Value → Shared → Prop} {h : Heap} {g : Array GenState} {d : Drawn} {tk : Tok} {os : OsState} (X : K.In h) (hh : A.handled = none) (hs : (x == sysModules) = false) (hxi : x ≠ it) (hxl : x ≠ l) (hil : it ≠ l) (hn : vs.length ≤ 4096)
    (hi : IntsAre vs ns) (hx : h.get? x = some (cntObj C dx #[] 0)) (hdx : h.get? dx = some od) (hit : h.get? it = some (itObj l 0)) (hl : h.IsList l vs.toArray)
    (hsub : subIn K (.ref C) (.type "dict") = some true) (hg : findIn K (.ref C) "get" = some (some (.builtin "dict.get"))) (hset : findIn K (.ref C) "__setitem__" = some (some (.builtin "dict.__setitem__")))
    (ret : ∀ h' tk' es' n', h'.get? x = some (cntObj C dx es' n') → CE (tally ns) es' → (∀ b o, b ≠ x → b ≠ it → h.get? b = some o → h'.get? b = some o) → Q .none ⟨h', g, d, tk', os⟩) :
    wpAny (model prog w) A (call (.builtin "_collections._count_elements") [.ref x, .ref it]) Q E ⟨h, g, d, tk, os⟩ := by
  refine wpAny_call (codeAny_call_builtin plain_ce entry_ce (wpAny_of_eq (a := ()) (by kernel_rfl) ?_))
  have I : InstAt h x (cntObj C dx #[] 0) C (some od) := ⟨hx, rfl, rfl, hdx⟩
  have L0 := I.type (M := model prog w)
  have i1 : Looks (model prog w) h (isInstance (.ref x) (.type "dict")) true := I.type.andThen (looks_subIn X hsub)
  have i2 : Looks (model prog w) h (specialOf (.ref x) "get") (some (.builtin "dict.get")) := I.type.andThen (looks_findIn X hg)
  have i3 : Looks (model prog w) h (specialOf (.ref x) "__setitem__") (some (.builtin "dict.__setitem__")) := I.type.andThen (looks_findIn X hset)
  have hit' : h.IsListIter it l 0 := ⟨_, hit, rfl, rfl⟩
  unfold Builtin.«_collections._count_elements» noKeywords PySem.checkCount
  refine wpAny_bind (wpAny_pure ?_)
  repeat (first | (with_reducible refine wpAny_pyIter_listiter hit' ?_) | (with_reducible refine wpAny_rule ?_) | lk)
  exact ⟨plainId_quiet plain_ced _, count_loop hh hs hxi hxl hil hn ns 0 h tk [] #[] 0 hi hx CE.nil List.nodup_nil (Nat.le_refl _) hit' hl fun h' tk' es' n' a b c => ret h' tk' es' n' a b c⟩
end
end Mine
end

/- text C7 -/
section
open PySem PySem.W PyProof.Rows PySem.Calls PyProof.V PySem.Spec
set_option maxRecDepth 100000
namespace Mine
section
variable {prog : Program} {w : World} {A A₀ : Around} {s : Shared} {K : Frag} {L : Addr} {h₀ base : Heap} {m mg mb : Str → Option Value} {news : List (Addr × Obj)} {p : Program} {loose : List Str} {mean : ExcName → Option Value}
/-- a def with **kwds and super(): what was hidden is the news; the end is shown as it is -/
theorem enterK {env : Env} {outer : List Env} {R : Result → Shared → Prop} {name qual : Str} {params : Arguments} {body : List Stmt} {scope : Scope} {cc : Addr} {dV kV doc pm cdv ct oc : Value} {an od : Option Addr} {osl : Array (Option Value)} {f : Addr} {args : Args} {nm : Str} {front : List (Str × Value)} {g₁ : Addr → Sem (List (Str × Value))}
    (B : Below A₀ base outer h₀) (F : Fr h₀ L s.heap m) (X₀ : K.In h₀) (N : News h₀ L s.heap news) (T : Top p loose mean mg mb h₀) (hA : A.frames = some (env :: outer)) (hf : env.frame = some L) (hke : env.scope.kind = .function)
    (ho : K.lookup f = some ⟨oc, od, .func (ksFn name qual params body scope dV kV doc pm an cdv ct cc), osl⟩) (hcd : codeIn K cdv qual = true) (hroom : A.depth < recursionLimit)
    (hnm : params.kwarg.map (·.arg) = some nm)
    (_hfr : peek K ⟨prog, w.params⟩ (bindArgs (fnCut (ksFn name qual params body scope dV kV doc pm an cdv ct cc)) (argsCut params args)) = some front)
    (hp : peekA K ⟨prog, w.params⟩ (bindArgs (ksFn name qual params body scope dV kV doc pm an cdv ct cc) args) = some (dictOf [] 0, g₁))
    (hk₁ : ∀ D, g₁ D = pure (front ++ [(nm, Value.ref D)]))
    (hloc : ∀ D, ∀ y ∈ front ++ [(nm, Value.ref D)], scope.names.lookup y.1 = some .local)
    (h : ∀ D g L' h₁ tk, (∀ b o, b ∉ news.map (·.1) → s.heap.get? b = some o → g.get? b = some o) → (∀ p ∈ news, p.1 < D) → (D == sysModules) = false → (dictOf [] 0 : Obj).IsDictOf (strKind prog w) [] → FlatPairs PyData.str [] [] → h₀.StaysIn g → Fr g L' h₁ (fun y => (front ++ [(nm, Value.ref D)]).reverse.lookup y) → News g L' h₁ ((D, dictOf [] 0) :: news) → Below A base (env :: outer) g → K.In g → Top p loose mean mg mb g →
      _root_.PySem.wpAt (model prog w) (A.deeper (ksEnv qual scope L' f cdv cc)) (.func body (ksEnv qual scope L' f cdv cc)) (execs body (ksEnv qual scope L' f cdv cc))
        (fun fl s' => R (.ok (.ret (match fl with | .ret v => v | _ => .none))) s')
        (fun e s' => wpAny (model prog w) (A.deeper (ksEnv qual scope L' f cdv cc)) (leaving (ksEnv qual scope L' f cdv cc) e) (fun _ s'' => R (.error e) s'') (fun e' s'' => R (.error e') s'') s')
        { s with heap := h₁, toks := tk })
    (hco : scope.isCoroutine = false) (hgen : scope.isGenerator = false) (hk : scope.kind = .function)
    (hcell : ∀ x ∈ scope.names, x.2 ≠ .cell) : codeAny (model prog w) A (.call (.ref f) args) R s := by
  have _ := hnm
  refine codeAny_call_function (fd := ksFn name qual params body scope dV kV doc pm an cdv ct cc) (body := body) hroom ((X₀.keeps F.keep) _ _ ho) rfl hco hgen rfl (codeRec_of (X₀.keeps F.keep) hcd) ?_
  refine wp_of_peekA' (o := dictOf [] 0) F N (X₀.keeps F.keep) rfl _ g₁ hp fun h' F' N' l hst => ?_
  rw [hk₁]
  refine wpAny_pure ?_
  obtain ⟨_, BG, st, _⟩ := groundX (s := { s with heap := h' }) (R := fun _ _ => True) B F' N' hA hf hke
  refine wpAny_newFunctionEnv (s := { s with heap := h' }) hcell (hloc _) (fun h₁ hns hsb => ⟨(T.nolimit.keeps F'.keep).fresh _ hsb, ks_codeAny_funcAt ?_⟩) hk
  have hk₁ : ∀ b o, h'.get? b = some o → h₁.get? b = some o := fun b o e => hsb.extBut b o (Nat.ne_of_lt (Heap.lt_size e)) (Heap.get?_push_of_some _ e)
  exact h _ _ h'.objs.size h₁ _ (fun b o hb e => hideAll_get _ (hst b o e) (fun q => by
      rcases List.mem_cons.mp q with q | q
      · exact absurd (Heap.lt_size e) (by rw [q]; exact Nat.lt_irrefl _)
      · exact hb q)) l (F.notModules (modules_low T.nolimit)) (kp_isDict (ex := []) s.toks 0 (by simp)) .nil st ⟨hns, fun b o e => hk₁ b o (of_hideAll _ e), Nat.le_of_eq (hideAll_size _ _)⟩
    (fun p hp => ⟨hk₁ _ _ (N' p hp).1, Nat.ne_of_lt (Heap.lt_size (N' p hp).1), hideAll_none _ (List.mem_map_of_mem hp)⟩) BG (X₀.keeps st) (T.keeps st)
/-- the same, of a def whose body calls no super() on this road -/
theorem enterK' {env : Env} {outer : List Env} {R : Result → Shared → Prop} {name qual : Str} {params : Arguments} {body : List Stmt} {scope : Scope} {cc : Addr} {dV kV doc pm cdv ct oc : Value} {an od : Option Addr} {osl : Array (Option Value)} {f : Addr} {args : Args} {nm : Str} {front : List (Str × Value)} {g₁ : Addr → Sem (List (Str × Value))}
    (B : Below A₀ base outer h₀) (F : Fr h₀ L s.heap m) (X₀ : K.In h₀) (N : News h₀ L s.heap news) (T : Top p loose mean mg mb h₀) (hA : A.frames = some (env :: outer)) (hf : env.frame = some L) (hke : env.scope.kind = .function)
    (ho : K.lookup f = some ⟨oc, od, .func (ksFn name qual params body scope dV kV doc pm an cdv ct cc), osl⟩) (hcd : codeIn K cdv qual = true) (hroom : A.depth < recursionLimit)
    (hnm : params.kwarg.map (·.arg) = some nm)
    (_hfr : peek K ⟨prog, w.params⟩ (bindArgs (fnCut (ksFn name qual params body scope dV kV doc pm an cdv ct cc)) (argsCut params args)) = some front)
    (hp : peekA K ⟨prog, w.params⟩ (bindArgs (ksFn name qual params body scope dV kV doc pm an cdv ct cc) args) = some (dictOf [] 0, g₁))
    (hk₁ : ∀ D, g₁ D = pure (front ++ [(nm, Value.ref D)]))
    (hloc : ∀ D, ∀ y ∈ front ++ [(nm, Value.ref D)], scope.names.lookup y.1 = some .local)
    (h : ∀ D g L' h₁ tk, (∀ b o, b ∉ news.map (·.1) → s.heap.get? b = some o → g.get? b = some o) → (∀ p ∈ news, p.1 < D) → (D == sysModules) = false → (dictOf [] 0 : Obj).IsDictOf (strKind prog w) [] → FlatPairs PyData.str [] [] → h₀.StaysIn g → Fr g L' h₁ (fun y => (front ++ [(nm, Value.ref D)]).reverse.lookup y) → News g L' h₁ ((D, dictOf [] 0) :: news) → Below A base (env :: outer) g → K.In g → Top p loose mean mg mb g →
      wpAny (model prog w) (A.deeper (ksEnv qual scope L' f cdv cc)) (execs body (ksEnv qual scope L' f cdv cc))
        (fun fl s' => R (.ok (.ret (match fl with | .ret v => v | _ => .none))) s')
        (fun e s' => wpAny (model prog w) (A.deeper (ksEnv qual scope L' f cdv cc)) (leaving (ksEnv qual scope L' f cdv cc) e) (fun _ s'' => R (.error e) s'') (fun e' s'' => R (.error e') s'') s')
        { s with heap := h₁, toks := tk })
    (hco : scope.isCoroutine = false) (hgen : scope.isGenerator = false) (hk : scope.kind = .function)
    (hcell : ∀ x ∈ scope.names, x.2 ≠ .cell) : codeAny (model prog w) A (.call (.ref f) args) R s :=
  enterK B F X₀ N T hA hf hke ho hcd hroom hnm _hfr hp hk₁ hloc (fun D g L' h₁ tk a b c d e f' i j k l n => fun Γ p _ hΓ => h D g L' h₁ tk a b c d e f' i j k l n Γ p hΓ) hco hgen hk hcell
end
theorem deeper_frames {A : Around} {l : List Env} {e : Env} (h : A.frames = some l) : (A.deeper e).frames = some (e :: l) := by simp only [Around.deeper, h, Option.map_some]
theorem ismap_K {w : World} {mean : ExcName → Option Value} {mg mb : Str → Option Value} {A A₀ : Around} {env : Env} {outer : List Env} {base h₀ : Heap} {L : Addr} {m : Str → Option Value} {s : Shared} {Q E : Value → Shared → Prop} {l it : Addr} {i : Nat} {news : List (Addr × Obj)}
    (B : Below A₀ base outer h₀) (F : Fr h₀ L s.heap m) (X : (Mine.hd.heap_39 w.params).In h₀) (T : Top PV PL mean mg mb h₀) (XB : (Mine.hd.heap_39 w.params).In base) (TB : Top PV PL mean mg mb base) (N : News h₀ L s.heap news)
    (hA : A.frames = some (env :: outer)) (hf : env.frame = some L) (hke : env.scope.kind = .function) (hh : A.handled = none) (hd : A.depth < recursionLimit)
    (hit : (it, itObj l i) ∈ news)
    (ret : ∀ h' tk' g', KtsTurn (frs outer) h₀ g' → Fr g' L h' m → News g' L h' news → Below A₀ base outer g' → (Mine.hd.heap_39 w.params).In g' → Top PV PL mean mg mb g' → Q (.bool false) { s with heap := h', toks := tk' }) :
    wpAny (model PP w) A (call (.ref 66) [.ref it]) Q E s := by
  refine ismap_call B F X T XB TB hA hf hke hh hd (N _ hit).1 fun h' tk' Tn' => ?_
  obtain ⟨g', KT, F', B'⟩ := reground (env := env) B F hf Tn'
  exact ret h' tk' g' KT F' (Mine.News.turn (env := env) B hf N Tn' KT) B' (XB.keeps B'.stays) (TB.keeps B'.stays)


set_option maxHeartbeats 4000000 in
theorem update_code {w : World} {mean : ExcName → Option Value} {mg mb : Str → Option Value} {A A₀ : Around} {env : Env} {outer : List Env} {base h₀ : Heap} {L : Addr} {m : Str → Option Value} {s : Shared} {R : Result → Shared → Prop} {news : List (Addr × Obj)} {x dx it l : Addr} {vs : List Value} {ns : List Int}
    (B : Below A₀ base outer h₀) (F : Fr h₀ L s.heap m) (X : (Mine.hd.heap_39 w.params).In h₀) (T : Top PV PL mean mg mb h₀) (XB : (Mine.hd.heap_39 w.params).In base) (TB : Top PV PL mean mg mb base) (N : News h₀ L s.heap news)
    (hA : A.frames = some (env :: outer)) (hf : env.frame = some L) (hke : env.scope.kind = .function) (hh : A.handled = none) (hd : A.depth + 2 < recursionLimit)
    (hx : (x, cntObj 285 dx #[] 0) ∈ news) (hdx : (dx, dictOf [] 0) ∈ news) (hit : (it, itObj l 0) ∈ news) (hl : h₀.IsList l vs.toArray) (hi : IntsAre vs ns) (hn : vs.length ≤ 4096) (hxs : (x == sysModules) = false)
    (ret : ∀ h' tk' es n, Tn (frs (env :: outer)) (hideAll s.heap (news.map (·.1))) h' → h'.get? x = some (cntObj 285 dx es n) → h'.get? dx = some (dictOf [] 0) → CE (tally ns) es → R (.ok (.ret .none)) { s with heap := h', toks := tk' }) :
    codeAny (model PP w) A (.call (.ref 128) ⟨[.ref x, .ref it], []⟩) R s := by
  w_top off
  have : PySem.Challenge.rw_dm5011_01 = PySem.Challenge.rw_dm5011_01 ∧ Mine.hd.heap_39 = Mine.hd.heap_39 := by k_fill; exact ⟨rfl, rfl⟩
  clear this
  k_dflt (refine' enterK' B F X N T hA hf hke ?k6 ?k7 ?k8 ?kM ?kR ?kP ?kT ?kB ?_ ?c2 ?c3 ?c4 ?c5; (case k6 => k_is); (case k7 => k_is); (case k8 => exact Nat.lt_of_le_of_lt (Nat.le_add_right _ _) hd); (case kM => exact rfl); (case kR => exact rfl); (case kP => exact rfl); (case kT => exact fun _ => rfl); (case kB => exact fun _ => locs rfl); (case c5 => decide); (case c2 => exact rfl); (case c3 => exact rfl); (case c4 => exact rfl))
  intro D g' L' h' tk' hst l1 lo' hs' fs' sg F' N' B' X' T'
  have hl' : g'.IsList l vs.toArray := let ⟨o, ho, r⟩ := hl; ⟨o, sg l o ho, r⟩
  clear B X T
  k_steps
  refine ismap_K B' F' X' T' XB TB N' (deeper_frames hA) rfl rfl hh (Nat.lt_of_succ_lt hd) (.tail _ hit) ?_
  intro h2 tk2 g2 KT2 F2 N2 B2 X2 T2
  have hl2 : g2.IsList l vs.toArray := list_turn (Tn.of_turn KT2) hl'
  clear B' X' T' F' hl' N'
  k_steps
  have nx := N2 _ (.tail _ hx)
  have nd := N2 _ (.tail _ hdx)
  have ni := N2 _ (.tail _ hit)
  have hxi : x ≠ it := by
    rintro rfl
    have := nx.1.symm.trans ni.1
    exact absurd (congrArg Obj.cls (Option.some.inj this)) (by simp)
  have hdxi : dx ≠ it := by
    rintro rfl
    have := nd.1.symm.trans ni.1
    exact absurd (congrArg Obj.cls (Option.some.inj this)) (by simp)
  have hxdx : dx ≠ x := by
    rintro rfl
    have := nd.1.symm.trans nx.1
    exact absurd (congrArg Obj.cls (Option.some.inj this)) (by simp)
  have hxl : x ≠ l := by
    rintro rfl
    obtain ⟨o, ho, _⟩ := hl2
    rw [nx.2.2] at ho; cases ho
  have hil : it ≠ l := by
    rintro rfl
    obtain ⟨o, ho, _⟩ := hl2
    rw [ni.2.2] at ho; cases ho
  have hDx : D ≠ x := fun e => absurd (l1 _ hx) (by rw [e]; exact Nat.lt_irrefl _)
  have hDi : D ≠ it := fun e => absurd (l1 _ hit) (by rw [e]; exact Nat.lt_irrefl _)
  refine count_call (K := Mine.hd.heap_39 w.params) (C := 285) (dx := dx) (od := dictOf [] 0) (l := l) (vs := vs) (ns := ns) (X2.keeps F2.keep) hh ?ks hxi hxl hil hn hi nx.1 nd.1 ni.1 (let ⟨o, ho, r⟩ := hl2; ⟨o, F2.keep l o ho, r⟩) ?k1 ?k2 ?k3 ?_
  case ks => exact hxs
  case k1 => k_dflt k_is
  case k2 => k_dflt k_is
  case k3 => k_dflt k_is
  intro h3 tk3 es n3 hx3 hce hk3
  have F3 : Fr g2 L' h3 _ := ⟨by
    obtain ⟨oL, eL, pL, hL, r⟩ := F2.ns
    exact ⟨oL, eL, pL, hk3 L' oL nx.2.1.symm ni.2.1.symm hL, r⟩, fun b o e => hk3 b o (fun q => by rw [q, nx.2.2] at e; cases e) (fun q => by rw [q, ni.2.2] at e; cases e) (F2.keep b o e), F2.above⟩
  have N3 : News g2 L' h3 [(D, dictOf [] 0)] := fun p hp => by
    obtain rfl := List.mem_singleton.mp hp
    obtain ⟨a, b, c⟩ := N2 _ (.head _)
    exact ⟨hk3 _ _ hDx hDi a, b, c⟩
  have fin : ∀ h4 tk4, h3.StaysIn h4 → R (.ok (.ret .none)) { s with heap := h4, toks := tk4 } := fun h4 tk4 st4 => by
    refine ret h4 tk4 es n3 ⟨fun b o e nm => ?_, fun b o e hm => ?_⟩ (st4 _ _ hx3) (st4 _ _ (hk3 _ _ hxdx hdxi nd.1)) hce
    · have hb : b ∉ news.map (·.1) := fun q => by rw [hideAll_none _ q] at e; cases e
      have eg := KT2.other b o (hst b o hb (of_hideAll _ e)) nm
      exact st4 b o (F3.keep b o eg)
    · have hb : b ∉ news.map (·.1) := fun q => by rw [hideAll_none _ q] at e; cases e
      obtain ⟨sl, eg⟩ := KT2.frame b o (hst b o hb (of_hideAll _ e)) hm
      exact ⟨sl, st4 b _ (F3.keep b _ eg)⟩
  clear F2 N2 nx nd ni
  k_steps
  all_goals (dsimp only; exact fin _ _ (fun _ _ e => e))
end Mine
end

/- text C8 -/
section
open PySem PySem.W PyProof.Rows PySem.Calls PyProof.V PySem.Spec Builtin Builtin.ObjectAttr Builtin.Getset_descriptor
set_option maxRecDepth 100000
namespace Mine
theorem tn_join {env' : Env} {outer' : List Env} {g hs h5 h6 : Heap} {L' : Addr} {m : Str → Option Value} {news5 : List (Addr × Obj)} {ex : List Addr} (hst : ∀ b o, b ∉ ex → hs.get? b = some o → g.get? b = some o) (F5 : Fr g L' h5 m) (N5 : News g L' h5 news5) (hfe : env'.frame = some L')
    (Tn6 : Tn (frs (env' :: outer')) (hideAll h5 (news5.map (·.1))) h6) : Tn (frs outer') (hideAll hs ex) h6 := by
  have hL := kts_self F5
  have hlift : ∀ b o, g.get? b = some o → (hideAll h5 (news5.map (·.1))).get? b = some o := fun b o e => hideAll_get _ (F5.keep b o e) (fun q => by
    obtain ⟨p, hp, rfl⟩ := List.mem_map.mp q
    rw [(N5 p hp).2.2] at e; cases e)
  have hg : ∀ b o, (hideAll hs ex).get? b = some o → g.get? b = some o := fun b o e => hst b o (fun q => by rw [hideAll_none _ q] at e; cases e) (of_hideAll _ e)
  refine ⟨fun b o e nm => ?_, fun b o e hm => ?_⟩
  · exact Tn6.other b o (hlift b o (hg b o e)) (fun z => by
      rcases frs_mem hfe z with z | z
      · have := hg b o e
        rw [z, hL] at this; cases this
      · exact nm z)
  · exact Tn6.frame b o (hlift b o (hg b o e)) (by
      obtain ⟨env'', he, hf'⟩ := List.mem_filterMap.mp hm
      exact List.mem_filterMap.mpr ⟨env'', .tail _ he, hf'⟩)
theorem InstAt.of_newsD {h₀ h : Heap} {L x C dx : Addr} {news : List (Addr × Obj)} {od : Obj} {es : Array DictEntry} {n : Nat} {sl : Array (Option Value)} (N : News h₀ L h news) (h1 : (x, (⟨.ref C, some dx, .dict es n, sl⟩ : Obj)) ∈ news) (h2 : (dx, od) ∈ news) :
    InstAt h x ⟨.ref C, some dx, .dict es n, sl⟩ C (some od) := ⟨(N _ h1).1, rfl, rfl, (N _ h2).1⟩

theorem call_clsD {prog : Program} {w : World} {A : Around} {E : Value → Shared → Prop} {s : Shared} {K : Frag} {C L : Addr} {h₀ : Heap} {m : Str → Option Value} {news : List (Addr × Obj)} {Q : Value → Shared → Prop} {pos : List Value} {kw : List (Str × Value)} {fI : Addr}
    {oc : Value} {od : Option Addr} {cd : ClassData} {sl : Array (Option Value)} (F : Fr h₀ L s.heap m) (X₀ : K.In h₀) (N : News h₀ L s.heap news) (hC : K.lookup C = some ⟨oc, od, .cls cd, sl⟩)
    (e1 : cd.abstract = false) (e2 : cd.hasDel = false) (hl : cd.mro = [.ref C, .type "dict", .type "object"]) (e3 : (sl.toList[4]?).join = some (.builtin "dict.__new__"))
    (e7 : specialIn K (.ref C) "__call__" = some (some (.builtin "type.__call__"))) (e8 : instIn K (.ref C) (.type "type") = some true)
    (hi : findIn K (.ref C) "__init__" = some (some (.ref fI))) (hf : isFn K (.ref fI) = true)
    (h : ∀ x dx h', Fr h₀ L h' m → News h₀ L h' ((x, cntObj C dx #[] 0) :: (dx, dictOf [] 0) :: news) → s.heap.StaysIn h' → @LE.le Nat _ s.heap.objs.size dx → dx < x →
      codeAny (model prog w) (A.under (.builtin "type.__call__" ⟨.ref C :: pos, kw⟩)) (.call (.ref fI) ⟨.ref x :: pos, kw⟩) (InitBack x fun r s' => match r with | .ok (.ret v) => Q v s' | .ok _ => False | .error e => E e s') { s with heap := h' }) :
    wpAny (model prog w) A (call (.ref C) pos kw) Q E s := by
  refine wpAny_call ?_
  obtain ⟨hh, g, d, t, os⟩ := s
  have X : K.In hh := X₀.keeps F.keep
  have N' := (N.push F emptyDict).push (F.push _) (cntObj C hh.objs.size #[] 0)
  rw [Heap.size_push] at N'
  exact make_D (makesD_of X hC e1 e2 hl e3 e7 e8) (looks_findIn X hi) (fun self => bind_fn X self (beq_iff_eq.mp hf)) (h _ hh.objs.size _ ((F.push _).push _) N' (fun b o e => Heap.get?_push_of_some _ (Heap.get?_push_of_some _ e)) (Nat.le_refl _) (Nat.lt_succ_self _))

local macro_rules | `(tactic| k_inst) => `(tactic| (refine' InstAt.of_newsD ?N ?h1 ?h2; (case N => k_asm); (case h1 => k_mem); (case h2 => k_mem)))

local macro_rules | `(tactic| walk_at "getMethod ref") => `(tactic| (k_here; (with_reducible show wpAny _ _ (getMethod (Value.ref _) (PySem.Str.ofString "__init__") _) _ _ _); k_dflt (refine' super_init_K ?k1 ?k2 ?k3 ?k4 ?k5 ?k6 ?k7 ?k8 ?k9 ?_; (case k1 => k_asm); (case k2 => k_asm); (case k3 => k_asm); (case k4 => k_mem); (case k5 => k_inst); (case k6 => k_is); (case k7 => k_is); (case k8 => ks_is); (case k9 => k_is); intro q' h' F' N' l1; (try k_lt l1))))
local macro_rules | `(tactic| walk_at "callWith ref") => `(tactic| (k_here; (with_reducible show wpAny _ _ (callWith _ (Value.ref _) [] (backTo _ (starEach [] _)) []) _ _ _); k_dflt (refine' dict_init_call ?k1 ?k2 ?k3 ?k4 ?k5 ?_; (case k1 => k_asm); (case k2 => k_mem); (case k3 => k_inst); (case k4 => k_in); (case k5 => k_is))))

local macro_rules | `(tactic| walk_at "getAttr ref") => `(tactic| (k_here; (with_reducible show wpAny _ _ (getAttr (Value.ref _) (PySem.Str.ofString "update") _) _ _ _); k_dflt (refine' get_boundD ?k1 ?k2 ?k3 ?k4 ?k5 ?k6 ?k7 ?k8 ?k9 ?k10 ?k11 ?k12 ?k13 ?k14 ?_; (case k1 => k_asm); (case k2 => k_asm); (case k3 => k_asm); (case k4 => k_inst); (case k5 => k_is); (case k6 => k_is); (case k7 => k_is); (case k8 => k_is); (case k9 => k_is); (case k10 => k_is); (case k11 => k_is); (case k12 => k_is); (case k13 => decide +kernel); (case k14 => k_get); intro q' h' F' N' l1; (try k_lt l1))))
theorem methodCall_KS {M : Model} {A : Around} {E : Value → Shared → Prop} {s : Shared} {env : Env} {o : PySem.Expr} {name : Str} {apos pos : Pos} {args : List PySem.Expr} {kws : List Keyword} {Q : Value → Shared → Prop}
    (h : wpAny M A (eval o env) (fun ov s₁ => wpAny M A (getAttr ov name true) (fun f s₂ => wpAny M A (callWith pos f [] (backTo pos (starEach args env)) (backToKw pos (keywordEach kws env))) Q E s₂) E s₁) E s)
    (he : eval (.Call (.Attribute o name apos) args kws pos) env = (do
      let ov ← eval o env
      standAt apos.atName
      let (f, first) ← holding [ov] (do pure (← getAttr ov name true, []))
      callWith pos f first (backTo pos (starEach args env)) (backToKw pos (keywordEach kws env))) := by rfl) :
    wpAny M A (eval (.Call (.Attribute o name apos) args kws pos) env) Q E s := by
  rw [he]
  refine wpAny_bind (wpAny_mono h (fun ov s₁ h₁ => wpAny_bind (wpAny_standAt (wpAny_bind (wpAny_holding (wpAny_bind (wpAny_mono h₁ (fun fx s₂ h₂ => ?_) fun _ _ x => x)))))) fun _ _ x => x)
  exact wpAny_pure h₂
local macro_rules | `(tactic| walk_at "eval Call Attribute") => `(tactic| (k_here; (with_reducible show wpAny _ _ (eval (Expr.Call (Expr.Attribute _ _ _) _ [Keyword.mk none _ _] _) _) _ _ _); refine methodCall_KS ?_))
local macro_rules | `(tactic| walk_at "callWith ref") => `(tactic| (k_here; (with_reducible show wpAny _ _ (callWith _ (Value.ref _) _ (backTo _ (starEach [Expr.Name _ _] _)) (backToKw _ (keywordEach [_] _))) _ _ _); k_dflt (refine' callWith_kw1 ?k1 ?k2 ?k3 ?k4 ?k4b ?k5 ?k6 ?k7 ?k8 ?_ ?e1 ?e2 ?e3 ?e4 ?e5; (case e1 => rfl); (case e2 => rfl); (case e3 => decide); (case e4 => rfl); (case e5 => decide); (case k1 => k_asm); (case k2 => k_asm); (case k3 => k_asm); (case k4 => k_mem); (case k4b => k_is); (case k5 => rfl); (case k6 => rfl); (case k7 => k_mem); (case k8 => k_asm); intro n' h' F' N' l1; (try k_lt l1))))

local macro_rules | `(tactic| k_room) => `(tactic| ktr_room)



set_option maxHeartbeats 4000000 in
theorem init_code {w : World} {mean : ExcName → Option Value} {mg mb : Str → Option Value} {A A₀ : Around} {env : Env} {outer : List Env} {base h₀ : Heap} {L : Addr} {m : Str → Option Value} {s : Shared} {R : Result → Shared → Prop} {x dx it l : Addr} {vs : List Value} {ns : List Int}
    (B : Below A₀ base outer h₀) (F : Fr h₀ L s.heap m) (X : (Mine.hd.heap_39 w.params).In h₀) (T : Top PV PL mean mg mb h₀) (XB : (Mine.hd.heap_39 w.params).In base) (TB : Top PV PL mean mg mb base) (N : News h₀ L s.heap [(x, cntObj 285 dx #[] 0), (dx, dictOf [] 0), (it, itObj l 0)])
    (hA : A.frames = some (env :: outer)) (hf : env.frame = some L) (hke : env.scope.kind = .function) (hh : A.handled = none) (hd : A.depth + 3 < recursionLimit)
    (hl : h₀.IsList l vs.toArray) (hi : IntsAre vs ns) (hn : vs.length ≤ 4096) (hxs : (x == sysModules) = false)
    (ret : ∀ h' tk' es n, Tn (frs (env :: outer)) (hideAll s.heap [x, dx, it]) h' → h'.get? x = some (cntObj 285 dx es n) → h'.get? dx = some (dictOf [] 0) → CE (tally ns) es → R (.ok (.ret .none)) { s with heap := h', toks := tk' }) :
    codeAny (model PP w) A (.call (.ref 83) ⟨[.ref x, .ref it], []⟩) R s := by
  w_top off
  have : PySem.Challenge.rw_dm5011_01 = PySem.Challenge.rw_dm5011_01 ∧ Mine.hd.heap_39 = Mine.hd.heap_39 := by k_fill; exact ⟨rfl, rfl⟩
  clear this
  k_dflt (refine' enterK B F X N T hA hf hke ?k6 ?k7 ?k8 ?kM ?kR ?kP ?kT ?kB ?_ ?c2 ?c3 ?c4 ?c5; (case k6 => k_is); (case k7 => k_is); (case k8 => exact Nat.lt_of_le_of_lt (Nat.le_add_right _ _) hd); (case kM => exact rfl); (case kR => exact rfl); (case kP => exact rfl); (case kT => exact fun _ => rfl); (case kB => exact fun _ => locs rfl); (case c5 => decide); (case c2 => exact rfl); (case c3 => exact rfl); (case c4 => exact rfl))
  intro D g' L' h' tk' hst l1 lo' hs' fs' sg F' N' B' X' T'
  have hl' : g'.IsList l vs.toArray := let ⟨o, ho, r⟩ := hl; ⟨o, sg l o ho, r⟩
  clear B X T
  k_lt l1
  k_steps
  rename_i n5 h5 F5 N5 l5
  rw [List.nil_append]
  k_dflt (refine' call_meth N5 ?k2 ?_; (case k2 => k_mem))
  refine update_code (l := l) (vs := vs) (ns := ns) B' F5 X' T' XB TB N5 (deeper_frames hA) rfl rfl hh hd (by k_mem) (by k_mem) (by k_mem) hl' hi hn hxs ?_
  intro h6 tk6 es n6 Tn6 hx6 hdx6 hce
  k_steps
  all_goals (
    dsimp only
    exact ret h6 tk6 es n6 (tn_join hst F5 N5 rfl Tn6) hx6 hdx6 hce)
/-- Counter(iter(a list of numbers)) -/
theorem counter_call {w : World} {mean : ExcName → Option Value} {mg mb : Str → Option Value} {outer : List Env} {A₀ A : Around} {base h₀ : Heap} {L : Addr} {m : Str → Option Value} {s : Shared} {Q E : Value → Shared → Prop} {news : List (Addr × Obj)} {env : Env}
    {l it : Addr} {vs : List Value} {ns : List Int}
    (B : Below A₀ base outer h₀) (F : Fr h₀ L s.heap m) (X : (Mine.hd.heap_39 w.params).In h₀) (T : Top PV PL mean mg mb h₀) (XB : (Mine.hd.heap_39 w.params).In base) (TB : Top PV PL mean mg mb base) (N : News h₀ L s.heap news)
    (hA : A.frames = some (env :: outer)) (hf : env.frame = some L) (hke : env.scope.kind = .function) (hh : A.handled = none) (hd : A.depth + 4 < recursionLimit)
    (hit : (it, itObj l 0) ∈ news) (hl : h₀.IsList l vs.toArray) (hi : IntsAre vs ns) (hn : vs.length ≤ 4096)
    (ret : ∀ x dx h' tk' es n, @LE.le Nat _ s.heap.objs.size dx → dx < x → (x == sysModules) = false → Tn (frs (env :: outer)) (hideAll s.heap [it]) h' → h'.get? x = some (cntObj 285 dx es n) → h'.get? dx = some (dictOf [] 0) → CE (tally ns) es → Q (.ref x) { s with heap := h', toks := tk' }) :
    wpAny (model PP w) A (call (.ref 285) [.ref it]) Q E s := by
  w_top off
  have : PySem.Challenge.rw_dm5011_01 = PySem.Challenge.rw_dm5011_01 ∧ Mine.hd.heap_39 = Mine.hd.heap_39 := by k_fill; exact ⟨rfl, rfl⟩
  clear this
  have N0 : News h₀ L s.heap [(it, itObj l 0)] := fun p hp => by obtain rfl := List.mem_singleton.mp hp; exact N _ hit
  k_dflt (refine' call_clsD F X N0 ?k1 ?k2 ?k3 ?k4 ?k5 ?k6 ?k7 ?k8 ?k9 ?_; (case k1 => k_is); (case k2 => rfl); (case k3 => rfl); (case k4 => rfl); (case k5 => rfl); (case k6 => k_is); (case k7 => k_is); (case k8 => k_is); (case k9 => k_is))
  intro x dx h1 F1 N1 st1 lx1 lx2
  have hxs : (x == sysModules) = false := beq_eq_false_iff_ne.mpr (Nat.ne_of_gt (Nat.lt_trans (modules_low T.nolimit) (Nat.lt_of_le_of_lt F.above (Nat.lt_of_lt_of_le F.ns.lt (Nat.le_trans lx1 (Nat.le_of_lt lx2))))))
  have hle : h₀.IsList l vs.toArray := hl
  refine init_code (l := l) (vs := vs) (ns := ns) B F1 X T XB TB N1 ?_ hf hke ?_ ?_ hl hi hn hxs ?_
  · unfold Around.under; dsimp only; rw [hA]; rfl
  · exact hh
  · rw [depth_under_kw]; exact hd
  intro h6 tk6 es n6 Tn6 hx6 hdx6 hce
  refine ⟨rfl, ret x dx h6 tk6 es n6 lx1 lx2 hxs ⟨fun b o e nm => Tn6.other b o ?_ nm, fun b o e hm => Tn6.frame b o ?_ hm⟩ hx6 hdx6 hce⟩
  all_goals (
    have hb : b ∉ [it] := fun q => by rw [hideAll_none _ q] at e; cases e
    have e' := of_hideAll _ e
    have hlt := Heap.lt_size e'
    refine hideAll_get _ (st1 b o e') ?_
    intro q
    simp only [List.mem_cons, List.not_mem_nil, or_false] at q hb
    rcases q with q | q | q
    · rw [q] at hlt; exact absurd (Nat.lt_of_lt_of_le hlt (Nat.le_trans lx1 (Nat.le_of_lt lx2))) (Nat.lt_irrefl _)
    · rw [q] at hlt; exact absurd (Nat.lt_of_lt_of_le hlt lx1) (Nat.lt_irrefl _)
    · exact hb q)
end Mine
end

/- text D2 -/
section
open PySem PySem.W PyProof.Rows PySem.Calls PyProof.V PySem.Spec
set_option maxRecDepth 100000
namespace Mine
abbrev iitObj (z : Value) (f : Bool) (x : Addr) (i n ep : Nat) (ok ov : Value) : Obj := { cls := .type "dict_itemiterator", data := .fields #[z, .bool f, .ref x, .int i 0, .int n 0, .int ep 0, ok, ov] }
section
variable {prog : Program} {w : World} {A : Around} {E : Value → Shared → Prop}
theorem nd_update {α : Type} {M : Model} {a : Addr} {part : Option Value} {f : Obj → Obj} {k : Unit → Sem α} {o o' : Obj} {Q : α → Shared → Prop} {h : Heap} {g : Array GenState} {d : Drawn} {tk : Tok} {os : OsState} (ho : h.get? a = some o) (hf : f o = o') (hn : o'.isFreed = false)
    (q : ∀ h', h'.get? a = some o' → h'.objs.size = h.objs.size → (∀ b ob, b ≠ a → h.get? b = some ob → h'.get? b = some ob) → wpAny M A (k ()) Q E ⟨h', g, d, tk, os⟩) : wpAny M A (.update a part f k) Q E ⟨h, g, d, tk, os⟩ := by
  have hq := q (h.update a f) (hf ▸ Heap.get?_update_self f ho (by rw [hf]; exact hn)) (Heap.size_update ..) (fun b ob ne e => (Heap.get?_update_ne _ _ _ _ ne).trans e)
  exact nd_bind (m := .update a part f .pure) (wpAny_updatePart ho hq)
theorem next_item {x it : Addr} {z ok ov : Value} {f : Bool} {i ep : Nat} {oc : Value} {odx : Option Addr} {osl : Array (Option Value)} {es : Array DictEntry} {e : DictEntry} {Q : Option Value → Shared → Prop} {h : Heap} {g : Array GenState} {d : Drawn} {tk : Tok} {os : OsState}
    (hit : h.get? it = some (iitObj z f x i es.size ep ok ov)) (hx : h.get? x = some ⟨oc, odx, .dict es ep, osl⟩) (he : es[i]? = some e)
    (hz : z = .none ∨ ∃ (a : Addr) (oa : Obj), z = rawInt a ∧ h.get? a = some oa ∧ a ≠ it)
    (hq : ∀ h' p z' f' ok' ov', h'.get? it = some (iitObj z' f' x (i + 1) es.size ep ok' ov') → (z' = .none ∨ ∃ (a : Addr) (oa : Obj), z' = rawInt a ∧ h'.get? a = some oa ∧ a ≠ it) → h'.get? p = some { cls := .type "tuple", data := .seq #[e.key, e.val] } → @LE.le Nat _ h.objs.size p →
      (∀ b o, b ≠ it → h.get? b = some o → h'.get? b = some o) → Q (some (.ref p)) ⟨h', g, d, tk, os⟩) :
    wpAny (model prog w) A (pyNext (.ref it)) Q E ⟨h, g, d, tk, os⟩ := by
  have hT : Shared.TypeIs ⟨h, g, d, tk, os⟩ (.ref it) "dict_itemiterator" := ⟨_, hit, rfl⟩
  unfold pyNext
  refine wpAny_bind (wpAny_attempt (wpAny_callSpecial?_slot (name := Str.ofString "__next__") hT PySem.F.slot_dict_itemiterator_next
    (wpAny_call_entry PySem.F.slot_dict_itemiterator_next hT PySem.F.entry_dict_itemiterator_next ?_ (PySem.F.args_dict_itemiterator_next_1 _))))
  have hi : (if (i : Int) < 0 then none else es[((i : Int)).toNat]?) = some e := by rw [if_neg (by omega), Int.toNat_natCast]; exact he
  repeat (first | simp only [bne_self_eq_false, Bool.false_eq_true, if_false, hi] | lk)
  refine nd_update (o' := iitObj z f x (i + 1) es.size ep ok ov) hit (by kernel_rfl) rfl fun h1 e1 s1 k1 => ?_
  clear hT
  repeat lk
  have hlt : h1.objs.size = h1.objs.size := rfl
  have e2 : (h1.push { cls := .type "tuple", data := .seq #[e.key, e.val] }).get? it = some (iitObj z f x (i + 1) es.size ep ok ov) := Heap.get?_push_of_some _ e1
  have t2 : (h1.push { cls := .type "tuple", data := .seq #[e.key, e.val] }).get? h1.objs.size = some { cls := .type "tuple", data := .seq #[e.key, e.val] } := Heap.get?_push_size _ rfl
  have k2 : ∀ b o, b ≠ it → h.get? b = some o → (h1.push { cls := .type "tuple", data := .seq #[e.key, e.val] }).get? b = some o := fun b o ne q => Heap.get?_push_of_some _ (k1 b o ne q)
  have le : @LE.le Nat _ h.objs.size h1.objs.size := Nat.le_of_eq s1.symm
  have pit : h1.objs.size ≠ it := fun q => by
    have := Heap.lt_size e1
    rw [q] at this
    exact Nat.lt_irrefl _ this
  generalize (h1.push { cls := .type "tuple", data := .seq #[e.key, e.val] }) = h2 at e2 t2 k2 ⊢
  generalize h1.objs.size = p at t2 le pit hlt ⊢
  clear hit hx he hi e1 s1 k1 hlt h1
  rcases hz with rfl | ⟨a, oa, rfl, ha, hai⟩
  · repeat lk
    refine nd_update (o' := iitObj .none f x (i + 1) es.size ep e.key ov) e2 (by kernel_rfl) rfl fun h3 e3 s3 k3 => ?_
    repeat lk
    refine nd_update (o' := iitObj .none f x (i + 1) es.size ep e.key e.val) e3 (by kernel_rfl) rfl fun h4 e4 s4 k4 => ?_
    repeat lk
    refine nd_update (o' := iitObj (rawInt p) f x (i + 1) es.size ep e.key e.val) e4 (by kernel_rfl) rfl fun h5 e5 s5 k5 => ?_
    repeat lk
    refine nd_update (o' := iitObj (rawInt p) false x (i + 1) es.size ep e.key e.val) e5 (by kernel_rfl) rfl fun h6 e6 s6 k6 => ?_
    have t6 := k6 _ _ pit (k5 _ _ pit (k4 _ _ pit (k3 _ _ pit t2)))
    repeat lk
    refine ⟨_, rfl, ?_⟩
    repeat lk
    exact hq h6 p _ _ _ _ e6 (.inr ⟨p, _, rfl, t6, pit⟩) t6 le fun b o ne q => k6 _ _ ne (k5 _ _ ne (k4 _ _ ne (k3 _ _ ne (k2 b o ne q))))
  · repeat lk
    have ha2 := k2 a oa hai ha
    refine kdx_alive (a := a) ha2 ?_
    cases f with
    | true =>
      repeat lk
      refine ⟨_, rfl, ?_⟩
      repeat lk
      exact hq h2 p _ _ _ _ e2 (.inr ⟨a, oa, rfl, ha2, hai⟩) t2 le k2
    | false =>
      repeat lk
      refine nd_update (o' := iitObj (rawInt a) true x (i + 1) es.size ep ok ov) e2 (by kernel_rfl) rfl fun h3 e3 s3 k3 => ?_
      repeat lk
      refine ⟨_, rfl, ?_⟩
      repeat lk
      exact hq h3 p _ _ _ _ e3 (.inr ⟨a, oa, rfl, k3 _ _ hai ha2, hai⟩) (k3 _ _ pit t2) le fun b o ne q => k3 _ _ ne (k2 b o ne q)
theorem isi_stop {M : Model} {h : Heap} {a : Addr} {o : Obj} (ha : h.get? a = some o) (hc : o.cls = .type "StopIteration") : Looks M h (isInstance (.ref a) (.type "StopIteration")) true := (Looks.ld ha).andThen (by
  rw [hc]; exact Looks.of_pure isSubtype_stop)
theorem next_end {x it : Addr} {z ok ov : Value} {f : Bool} {i ep : Nat} {oc : Value} {odx : Option Addr} {osl : Array (Option Value)} {es : Array DictEntry} {Q : Option Value → Shared → Prop} {h : Heap} {g : Array GenState} {d : Drawn} {tk : Tok} {os : OsState}
    (hh : A.handled = none) (hit : h.get? it = some (iitObj z f x i es.size ep ok ov)) (hx : h.get? x = some ⟨oc, odx, .dict es ep, osl⟩) (he : es[i]? = none)
    (hq : ∀ h', (∀ b o, b ≠ it → h.get? b = some o → h'.get? b = some o) → Q none ⟨h', g, d, tk, os⟩) :
    wpAny (model prog w) A (pyNext (.ref it)) Q E ⟨h, g, d, tk, os⟩ := by
  have hT : Shared.TypeIs ⟨h, g, d, tk, os⟩ (.ref it) "dict_itemiterator" := ⟨_, hit, rfl⟩
  unfold pyNext
  refine wpAny_bind (wpAny_attempt (wpAny_callSpecial?_slot (name := Str.ofString "__next__") hT PySem.F.slot_dict_itemiterator_next
    (wpAny_call_entry PySem.F.slot_dict_itemiterator_next hT PySem.F.entry_dict_itemiterator_next ?_ (PySem.F.args_dict_itemiterator_next_1 _))))
  have hi : (if (i : Int) < 0 then none else es[((i : Int)).toNat]?) = none := by rw [if_neg (by omega), Int.toNat_natCast]; exact he
  repeat (first | simp only [bne_self_eq_false, Bool.false_eq_true, if_false, hi] | lk)
  refine nd_update (o' := { iitObj z f x i es.size ep ok ov with data := .fields #[z, .bool f, .none, .int i 0, .int es.size 0, .int ep 0, ok, ov] }) hit (by kernel_rfl) rfl fun h1 e1 s1 k1 => ?_
  repeat lk
  refine wpAny_handled ?_
  rw [show A.in1.handled = none from hh]
  repeat lk
  refine wpAny_throw ?_
  refine wpAny_bind ((isi_stop (Heap.get?_push_size _ rfl) rfl).at ?_)
  repeat lk
  exact hq _ fun b o ne q => Heap.get?_push_of_some _ (Heap.get?_push_of_some _ (k1 b o ne q))
end
end Mine
end

/- text D3 -/
section
open PySem PySem.W PyProof.Rows PySem.Calls PyProof.V PySem.Spec
set_option maxRecDepth 100000
namespace Mine
def PairsAt (h : Heap) (c : List (Int × Int)) (as : List Addr) : Prop := ∀ (j : Nat) (a : Addr), as[j]? = some a → ∃ (k v : Int) (t u : Tok), c[j]? = some (k, v) ∧ h.get? a = some ({ cls := .type "tuple", data := .seq #[.int k t, .int v u] } : Obj)
theorem CE.get {c : List (Int × Int)} {es : Array DictEntry} (h : CE c es) {i : Nat} (hi : i < c.length) : ∃ e t u, es[i]? = some e ∧ e.key = .int c[i].1 t ∧ e.val = .int c[i].2 u := by
  obtain ⟨l, rfl, rfl⟩ := h
  have hl : i < l.length := by simpa using hi
  exact ⟨ent l[i], l[i].2.2.1, l[i].2.2.2, by simp [hl], by simp [ent], by simp [ent]⟩
section
variable {prog : Program} {w : World} {A : Around} {E : Value → Shared → Prop}
theorem ext_items {S I x : Addr} {oc : Value} {odx : Option Addr} {osl : Array (Option Value)} {es : Array DictEntry} {ep : Nat} {c : List (Int × Int)} {res : Value} {R : Result → Shared → Prop} {g : Array GenState} {d : Drawn} {os : OsState} {h₁ : Heap}
    (hh : A.handled = none) (hSI : S ≠ I) (hxS : x ≠ S) (hxI : x ≠ I) (hc : CE c es) (hn : c.length ≤ 4096)
    (hR : ∀ h' tk as e, (∀ b o, b ≠ S → b ≠ I → h₁.get? b = some o → h'.get? b = some o) → h'.get? S = some (seqObj "list" (as.map Value.ref).toArray e) → as.length = c.length → PairsAt h' c as → (∀ a ∈ as, I < a) → R (.ok (.ret res)) ⟨h', g, d, tk, os⟩) :
    ∀ (k i : Nat) (h : Heap) (tk e : Nat) (as : List Addr) (z ok ov : Value) (f : Bool), c.length - i = k → i ≤ c.length → h.get? I = some (iitObj z f x i es.size ep ok ov) → (z = .none ∨ ∃ (a : Addr) (oa : Obj), z = rawInt a ∧ h.get? a = some oa ∧ a ≠ I) → h.get? x = some ⟨oc, odx, .dict es ep, osl⟩ →
      (∀ b o, b ≠ S → b ≠ I → h₁.get? b = some o → h.get? b = some o) → h.get? S = some (seqObj "list" (as.map Value.ref).toArray e) → as.length = i → PairsAt h c as → (∀ a ∈ as, I < a) →
      codeAny (model prog w) A (.builtin "list.extend.loop" ⟨[.ref S, .ref I, res], []⟩) R ⟨h, g, d, tk, os⟩ := by
  have hsz : es.size = c.length := hc.size
  intro k
  induction k with
  | zero =>
    intro i h tk e as z ok ov f hk hi hI hz hx hkeep hS hal hP hup
    refine codeAny_builtin PySem.F.entry_extend_loop ?_
    rw [Around.under_plainId PySem.F.plain_extend_loop _]
    show wpAny _ A.in1 (pyNext (.ref I) >>= _) _ _ _
    refine wpAny_bind (next_end hh hI hx (by rw [Array.getElem?_eq_none (by omega)]) fun h' k' => ?_)
    refine wpAny_pure (hR h' tk as e (fun b o h1 h2 q => k' b o h2 (hkeep b o h1 h2 q)) (k' _ _ hSI hS) (by omega) (fun j a hj => ?_) hup)
    obtain ⟨k, v, t, u, e1, e2⟩ := hP j a hj
    refine ⟨k, v, t, u, e1, k' a _ (fun q => ?_) e2⟩
    rw [q, hI] at e2
    exact absurd (congrArg Obj.cls (Option.some.inj e2)) (by simp)
  | succ k ih =>
    intro i h tk e as z ok ov f hk hi hI hz hx hkeep hS hal hP hup
    have hlt : i < c.length := by omega
    obtain ⟨en, t, u, hen, hkey, hval⟩ := hc.get hlt
    refine codeAny_builtin PySem.F.entry_extend_loop ?_
    rw [Around.under_plainId PySem.F.plain_extend_loop _]
    show wpAny _ A.in1 (pyNext (.ref I) >>= _) _ _ _
    refine wpAny_bind (next_item hI hx hen hz fun h' p z' f' ok' ov' hI' hz' hp le k' => ?_)
    have hS' := k' _ _ hSI hS
    have hSp : p ≠ S := fun q => by rw [q, hS'] at hp; exact absurd (congrArg Obj.cls (Option.some.inj hp)) (by simp)
    have hpI : p ≠ I := fun q => by rw [q, hI'] at hp; exact absurd (congrArg Obj.cls (Option.some.inj hp)) (by simp)
    show wpAny _ A.in1 (updateSeq S (·.push (Value.ref p)) >>= _) _ _ _
    have hsl : (as.map Value.ref).toArray.size = i := by simp [hal]
    refine wpAny_bind (wpAny_updateSeq hS' rfl (wpAny_pure ?_) (by rw [hsl, sizeLine_eq]; omega) (by rw [Array.size_push, hsl, sizeLine_eq]; omega))
    have up : ∀ b o, b ≠ S → h'.get? b = some o → (h'.update S (Obj.mapSeq (·.push (Value.ref p)))).get? b = some o := fun b o ne q => (Heap.get?_update_ne _ _ _ _ ne).trans q
    refine ⟨plainId_quiet PySem.F.plain_extend_loop _, ih (i + 1) _ tk (if ((as.map Value.ref).toArray.push (Value.ref p)).size == (as.map Value.ref).toArray.size then e else e + 1) (as ++ [p]) z' ok' ov' f' (by omega) hlt (up _ _ hSI.symm hI') ?_ (up _ _ hxS (k' _ _ hxI hx)) (fun b o h1 h2 q => up b o h1 (k' b o h2 (hkeep b o h1 h2 q))) ?_ (by rw [List.length_append, hal]; rfl) ?_ (fun a ha => (List.mem_append.mp ha).elim (hup a) fun q => by rw [List.mem_singleton.mp q]; exact Nat.lt_of_lt_of_le (Heap.lt_size hI) le)⟩
    · rcases hz' with z1 | ⟨a, oa, z1, z2, z3⟩
      · exact .inl z1
      · by_cases q : a = S
        · exact .inr ⟨a, _, z1, by rw [q]; exact Heap.get?_update_self _ hS' rfl, z3⟩
        · exact .inr ⟨a, oa, z1, up _ _ q z2, z3⟩
    · have := get?_update_seq hS' (fun a => a.push (Value.ref p))
      rw [List.map_append, List.map_singleton]
      simpa using this
    · intro j a hj
      rcases Nat.lt_or_ge j as.length with h1 | h1
      · rw [List.getElem?_append_left h1] at hj
        obtain ⟨k, v, t', u', e1, e2⟩ := hP j a hj
        refine ⟨k, v, t', u', e1, up a _ (fun q => ?_) (k' a _ (fun q => ?_) e2)⟩
        · rw [q, hS] at e2; exact absurd (congrArg Obj.cls (Option.some.inj e2)) (by simp)
        · rw [q, hI] at e2; exact absurd (congrArg Obj.cls (Option.some.inj e2)) (by simp)
      · rw [List.getElem?_append_right h1] at hj
        have hj0 : j - as.length = 0 := by
          rcases Nat.eq_zero_or_pos (j - as.length) with q | q
          · exact q
          · rw [List.getElem?_eq_none (by simp only [List.length_singleton]; omega)] at hj; cases hj
        rw [hj0] at hj
        obtain rfl := Option.some.inj hj
        have hji : j = i := by omega
        subst hji
        refine ⟨c[j].1, c[j].2, t, u, List.getElem?_eq_getElem hlt, up p _ hSp ?_⟩
        rw [hp, hkey, hval]
abbrev viewObj (T : String) (x : Addr) : Obj := { cls := .type T, data := .fields #[.ref x] }
theorem iter_items {v x : Addr} {oc : Value} {odx : Option Addr} {osl : Array (Option Value)} {es : Array DictEntry} {ep : Nat} {Q : Value → Shared → Prop} {h : Heap} {g : Array GenState} {d : Drawn} {tk : Tok} {os : OsState}
    (hv : h.get? v = some (viewObj "dict_items" x)) (hx : h.get? x = some ⟨oc, odx, .dict es ep, osl⟩)
    (hq : Q (.ref h.objs.size) ⟨h.push (iitObj .none false x 0 es.size ep .none .none), g, d, tk, os⟩) :
    wpAny (model prog w) A (pyIter (.ref v)) Q E ⟨h, g, d, tk, os⟩ := by
  have hT : Shared.TypeIs ⟨h, g, d, tk, os⟩ (.ref v) "dict_items" := ⟨_, hv, rfl⟩
  refine wpAny_pyIter_slot hT PySem.F.slot_dict_items_iter (wpAny_call_entry PySem.F.slot_dict_items_iter hT PySem.F.entry_dict_items_iter ?_ (PySem.F.args_dict_items_iter_1 _))
  repeat lk
  have hown : Builtin.Dict_items.ownsTuple "dict_itemiterator" = true := by decide
  simp only [hown, if_true, Bool.false_eq_true, if_false]
  exact ⟨_, rfl, "dict_itemiterator", _, ⟨_, Heap.get?_push_size _ rfl, rfl⟩, PySem.F.slot_dict_itemiterator_next.lookup, hq⟩
theorem pairs_keep {h h' : Heap} {c : List (Int × Int)} {as : List Addr} {S : Addr} {xs : Array Value} {e : Nat} (hP : PairsAt h c as) (hS : h.get? S = some (seqObj "list" xs e)) (hk : ∀ b o, b ≠ S → h.get? b = some o → h'.get? b = some o) : PairsAt h' c as := fun j a hj => by
  obtain ⟨k, v, t, u, e1, e2⟩ := hP j a hj
  exact ⟨k, v, t, u, e1, hk a _ (fun q => by rw [q, hS] at e2; exact absurd (congrArg Obj.cls (Option.some.inj e2)) (by simp)) e2⟩
theorem list_items {v x : Addr} {oc : Value} {odx : Option Addr} {osl : Array (Option Value)} {es : Array DictEntry} {ep : Nat} {c : List (Int × Int)} {Q : Value → Shared → Prop} {h : Heap} {g : Array GenState} {d : Drawn} {tk : Tok} {os : OsState}
    (hh : A.handled = none) (hv : h.get? v = some (viewObj "dict_items" x)) (hx : h.get? x = some ⟨oc, odx, .dict es ep, osl⟩) (hc : CE c es) (hn : c.length ≤ 4096)
    (hQ : ∀ h' tk' p as e, h.StaysIn h' → @LE.le Nat _ h.objs.size p → h'.get? p = some (seqObj "list" (as.map Value.ref).toArray e) → as.length = c.length → PairsAt h' c as → (∀ a ∈ as, @LE.le Nat _ h.objs.size a) → Q (.ref p) ⟨h', g, d, tk', os⟩) :
    wpAny (model prog w) A (call (.type "list") [.ref v]) Q E ⟨h, g, d, tk, os⟩ := by
  have hvl := Heap.lt_size hv
  have hxl := Heap.lt_size hx
  refine callType_codes (Q₁ := fun obj s₁ => obj = .ref h.objs.size ∧ s₁ = ⟨h.push { cls := .type "list", data := .seq #[] }, g, d, tk, os⟩) PySem.F.called_list (PySem.F.typeCall_list_1 _) PySem.F.entry_list_init
    (code_list_new _ ⟨rfl, rfl⟩) fun obj s₁ h₁ => ?_
  obtain ⟨rfl, rfl⟩ := h₁
  have hS0 : (h.push { cls := .type "list", data := .seq #[] }).get? h.objs.size = some (seqObj "list" #[] 0) := Heap.get?_push_size _ rfl
  refine ⟨⟨_, hS0, rfl⟩, PySem.F.args_list_init_2 _ _, ?_⟩
  have st0 : ∀ b o, h.get? b = some o → b ≠ h.objs.size ∧ (h.push { cls := .type "list", data := .seq #[] }).get? b = some o := fun b o q => ⟨Nat.ne_of_lt (Heap.lt_size q), Heap.get?_push_of_some _ q⟩
  generalize (h.push { cls := .type "list", data := .seq #[] }) = h1 at hS0 st0 ⊢
  generalize hSe : h.objs.size = S at hS0 st0 hvl hxl ⊢
  unfold Builtin.«list.__init__»
  repeat lk
  refine nd_update (o' := seqObj "list" #[] 0) hS0 (by kernel_rfl) rfl fun h2 e2 s2 k2 => ?_
  have hv2 := k2 _ _ (Nat.ne_of_lt hvl) (st0 _ _ hv).2
  have hx2 := k2 _ _ (Nat.ne_of_lt hxl) (st0 _ _ hx).2
  repeat lk
  have h1 : Builtin.List.listSameRef (.ref S) (.ref v) = false := by simp [Builtin.List.listSameRef, Nat.ne_of_gt hvl]
  have h2' : (Value.type "dict_items" == Value.type "list") = false := by decide
  have h3' : (Value.type "dict_items" == Value.type "tuple") = false := by decide
  simp only [h1, h2', h3', Bool.or_false, Bool.false_eq_true, if_false]
  refine wpAny_bind (iter_items hv2 hx2 ?_)
  have e3 : (h2.push (iitObj .none false x 0 es.size ep .none .none)).get? S = some (seqObj "list" #[] 0) := Heap.get?_push_of_some _ e2
  have hv3 : (h2.push (iitObj .none false x 0 es.size ep .none .none)).get? v = some (viewObj "dict_items" x) := Heap.get?_push_of_some _ hv2
  have hx3 : (h2.push (iitObj .none false x 0 es.size ep .none .none)).get? x = some ⟨oc, odx, .dict es ep, osl⟩ := Heap.get?_push_of_some _ hx2
  have hI3 : (h2.push (iitObj .none false x 0 es.size ep .none .none)).get? h2.objs.size = some (iitObj .none false x 0 es.size ep .none .none) := Heap.get?_push_size _ rfl
  have k3 : ∀ b o, h.get? b = some o → b ≠ S ∧ b ≠ h2.objs.size ∧ (h2.push (iitObj .none false x 0 es.size ep .none .none)).get? b = some o := fun b o q =>
    ⟨(st0 b o q).1, Nat.ne_of_lt (Heap.lt_size (k2 b o (st0 b o q).1 (st0 b o q).2)), Heap.get?_push_of_some _ (k2 b o (st0 b o q).1 (st0 b o q).2)⟩
  have hSI : S ≠ h2.objs.size := Nat.ne_of_lt (Heap.lt_size e2)
  have hxI : x ≠ h2.objs.size := Nat.ne_of_lt (Heap.lt_size hx2)
  generalize (h2.push (iitObj .none false x 0 es.size ep .none .none)) = h3 at e3 hv3 hx3 hI3 k3 ⊢
  have hIle : @LE.le Nat _ h.objs.size h2.objs.size := Nat.le_of_lt (by rw [hSe]; exact Heap.lt_size e2)
  generalize h2.objs.size = I at hI3 k3 hSI hxI hIle ⊢
  refine wpAny_bind (wpAny_holding (kdx_hint ⟨_, hv3, rfl⟩ ?_))
  have fin : ∀ h4 e4, h4.get? S = some (seqObj "list" #[] e4) → (∀ b o, b ≠ S → h3.get? b = some o → h4.get? b = some o) → codeAny (model prog w) A.in1 (.builtin "list.extend.loop" ⟨[.ref S, .ref I, .none], []⟩) (wants (fun r s₂ => r = .none ∧ Q (.ref S) s₂) E) ⟨h4, g, d, tk, os⟩ := by
    intro h4 e4 hS4 k4
    refine ext_items (A := A.in1) (h₁ := h4) (c := c) hh hSI (Nat.ne_of_lt hxl) hxI hc hn (fun h' tk' as e k5 hS5 hal hP hup => ?_) c.length 0 h4 tk e4 [] .none .none .none false (Nat.sub_zero _) (Nat.zero_le _) (k4 _ _ hSI.symm hI3) (.inl rfl) (k4 _ _ (Nat.ne_of_lt hxl) hx3) (fun b o _ _ q => q) hS4 rfl (fun j a hj => by simp at hj) (fun a ha => nomatch ha)
    exact ⟨rfl, hQ h' tk' S as e (fun b o q => k5 b o (k3 b o q).1 (k3 b o q).2.1 (k4 b o (k3 b o q).1 (k3 b o q).2.2)) (Nat.le_of_eq hSe) hS5 hal hP (fun a ha => Nat.le_trans hIle (Nat.le_of_lt (hup a ha)))⟩
  refine wpAny_ite_split (fun _ => ?_) (fun _ => wpAny_pure ⟨plainId_quiet PySem.F.plain_extend_loop _, fin h3 0 e3 fun _ _ _ q => q⟩)
  repeat lk
  refine nd_update (o' := seqObj "list" #[.none] 1) e3 (by kernel_rfl) rfl fun h4 e4 s4 k4 => ?_
  repeat lk
  refine nd_update (o' := seqObj "list" #[] 2) e4 (by kernel_rfl) rfl fun h5 e5 s5 k5 => ?_
  repeat lk
  exact ⟨plainId_quiet PySem.F.plain_extend_loop _, fin h5 2 e5 fun b o ne q => k5 b o ne (k4 b o ne q)⟩
end
end Mine
end

/- text D4 -/
section
open PySem PySem.W PyProof.Rows PySem.Calls PyProof.V PySem.Spec
set_option maxRecDepth 100000
namespace Mine
section
variable {prog : Program} {w : World} {A : Around} {E : Value → Shared → Prop}
/-- a dict's method or slot, called with a subclass's object -/
theorem call_dict {id : String} {n : String} {b : Builtin} {x : Addr} {Q : Value → Shared → Prop} {h : Heap} {g : Array GenState} {d : Drawn} {tk : Tok} {os : OsState} (hp : plainId id = true) (he : entryFor table id = some b) (hk : builtinKind id = some .method ∨ builtinKind id = some .slot) (hsp : splitId id = some ("dict", n)) (ha : argsOk id ⟨[.ref x], []⟩)
    (hi : Looks (model prog w) h (isInstance (.ref x) (.type "dict")) true)
    (hq : wpAny (model prog w) A.in1 (b ⟨[.ref x], []⟩) (fun fin s' => ∃ v, fin = .done (.ret v) ∧ Q v s') E ⟨h, g, d, tk, os⟩) : wpAny (model prog w) A (call (.builtin id) [.ref x]) Q E ⟨h, g, d, tk, os⟩ := by
  refine wpAny_call (codeAny_call_builtin hp he ?_)
  have hq' := wpAny_mono hq (Q' := fun fin s' => match fin with | .done f => (match (.ok f : Result) with | .ok (.ret v) => Q v s' | .ok _ => False | .error e => E e s') | .again c' => c'.quiet = true ∧ codeAny (model prog w) A c' (fun r s'' => match r with | .ok (.ret v) => Q v s'' | .ok _ => False | .error e => E e s'') s') (fun fin s' z => by
    obtain ⟨v, rfl, z⟩ := z
    exact z) fun _ _ z => z
  rcases hk with hk | hk <;>
  · simp only [checkBuiltinCall, hk, hsp]
    refine wpAny_bind (hi.at ?_)
    simp only [Bool.not_true, Bool.false_eq_true, if_false]
    cases hsig : Manifest.signature? id with
    | none => exact wpAny_pure hq'
    | some sig =>
      unfold argsOk at ha
      rw [hsig] at ha
      exact wpAny_of_eq ha hq'
theorem items_call {C x : Addr} {odx : Option Addr} {dd : Data} {osl : Array (Option Value)} {Q : Value → Shared → Prop} {h : Heap} {g : Array GenState} {d : Drawn} {tk : Tok} {os : OsState} (hx : h.get? x = some ⟨.ref C, odx, dd, osl⟩) (h1 : Looks (model prog w) h (isSubtype (.ref C) (.type "dict")) true) (h2 : Looks (model prog w) h (isSubtype (.ref C) (.type "collections.OrderedDict")) false) (hs : (x == sysModules) = false)
    (hq : Q (.ref h.objs.size) ⟨h.push (viewObj "dict_items" x), g, d, tk, os⟩) : wpAny (model prog w) A (call (.builtin "dict.items") [.ref x]) Q E ⟨h, g, d, tk, os⟩ := by
  refine call_dict (by decide +kernel) PySem.F.entry_dict_items (.inl (by decide +kernel)) (n := "items") (by decide +kernel) (PySem.F.args_dict_items_1 _) ((Looks.ld hx).andThen h1) ?_
  unfold Builtin.«dict.items»
  repeat (first | simp only [hs, Bool.false_eq_true, if_false] | lk)
  exact ⟨_, rfl, hq⟩
theorem values_call {C x : Addr} {odx : Option Addr} {dd : Data} {osl : Array (Option Value)} {Q : Value → Shared → Prop} {h : Heap} {g : Array GenState} {d : Drawn} {tk : Tok} {os : OsState} (hx : h.get? x = some ⟨.ref C, odx, dd, osl⟩) (h1 : Looks (model prog w) h (isSubtype (.ref C) (.type "dict")) true) (h2 : Looks (model prog w) h (isSubtype (.ref C) (.type "collections.OrderedDict")) false) (hs : (x == sysModules) = false)
    (hq : Q (.ref h.objs.size) ⟨h.push (viewObj "dict_values" x), g, d, tk, os⟩) : wpAny (model prog w) A (call (.builtin "dict.values") [.ref x]) Q E ⟨h, g, d, tk, os⟩ := by
  refine call_dict (by decide +kernel) PySem.F.entry_dict_values (.inl (by decide +kernel)) (n := "values") (by decide +kernel) (PySem.F.args_dict_values_1 _) ((Looks.ld hx).andThen h1) ?_
  unfold Builtin.«dict.values»
  repeat (first | simp only [hs, Bool.false_eq_true, if_false] | lk)
  exact ⟨_, rfl, hq⟩
end
end Mine
end

/- text D1 -/
section
open PySem PySem.W PyProof.Rows PySem.Calls PyProof.V PySem.Spec
set_option maxRecDepth 100000
namespace Mine
set_option maxHeartbeats 4000000 in
theorem second_call {w : World} {mean : ExcName → Option Value} {mg mb : Str → Option Value} {A A₀ : Around} {env : Env} {outer : List Env} {base h₀ : Heap} {L : Addr} {m : Str → Option Value} {s : Shared} {Q E : Value → Shared → Prop} {p : Addr} {k c : Value}
    (B : Below A₀ base outer h₀) (F : Fr h₀ L s.heap m) (X : (Mine.hd.heap_39 w.params).In h₀) (T : Top PV PL mean mg mb h₀)
    (hA : A.frames = some (env :: outer)) (hf : env.frame = some L) (hke : env.scope.kind = .function) (hd : A.depth < recursionLimit)
    (hp : IsTup s.heap p #[k, c])
    (ret : ∀ h' tk', s.heap.StaysIn h' → Q c { s with heap := h', toks := tk' }) :
    wpAny (model PP w) A (call (.ref 59) [.ref p]) Q E s := by
  w_top off
  have : PySem.Challenge.rw_dm5011_01 = PySem.Challenge.rw_dm5011_01 ∧ Mine.hd.heap_39 = Mine.hd.heap_39 := by k_fill; exact ⟨rfl, rfl⟩
  clear this
  refine wpAny_call ?_
  k_dflt (refine' callS B F X T hA hf hke ?k6 ?k7 hd ?k9 ?kB ?_ ?c2 ?c3 ?c4 ?c5; (case k6 => k_is); (case k7 => k_is); (case k9 => exact BindsTo.of_eq rfl); (case c5 => exact rfl); (case kB => exact locs rfl); (case c2 => decide); (case c3 => exact rfl); (case c4 => exact rfl))
  intro L' h' F' eL' N' B' X' T'
  dsimp only
  clear B F X T
  try k_fold
  k_steps
  all_goals (dsimp only; exact ret _ _ F'.keep)
end Mine
end

/- text S1 -/
section
open PySem PyProof.Rows
set_option maxRecDepth 100000
namespace Mine
/-- j is the last of the highest keys of a₀ between lo and hi -/
def Tp (a₀ : Array Keyed) (lo hi j : Nat) : Prop := lo ≤ j ∧ j < hi ∧ ∀ i, lo ≤ i → i < hi → K a₀ i < K a₀ j ∨ (K a₀ i = K a₀ j ∧ i ≤ j)
structure Seg (a₀ xs : Array Keyed) (lo hi : Nat) : Prop where
  mem : ∀ k, lo ≤ k → k < hi → ∃ i, lo ≤ i ∧ i < hi ∧ xs[k]? = a₀[i]?
  top : ∃ j, Tp a₀ lo hi j ∧ xs[hi - 1]? = a₀[j]?
theorem Seg.lt {a₀ xs : Array Keyed} {lo hi : Nat} (h : Seg a₀ xs lo hi) : lo < hi := by
  obtain ⟨j, ⟨h1, h2, _⟩, _⟩ := h.top; omega
theorem Seg.one {a₀ xs : Array Keyed} {lo : Nat} (h : xs[lo]? = a₀[lo]?) : Seg a₀ xs lo (lo + 1) :=
  ⟨fun k h1 h2 => ⟨lo, Nat.le_refl _, by omega, by rw [show k = lo by omega]; exact h⟩, lo, ⟨Nat.le_refl _, by omega, fun i h1 h2 => .inr ⟨by rw [show i = lo by omega], by omega⟩⟩, h⟩
theorem Seg.congr {a₀ xs ys : Array Keyed} {lo hi : Nat} (h : Seg a₀ xs lo hi) (e : ∀ k, lo ≤ k → k < hi → ys[k]? = xs[k]?) : Seg a₀ ys lo hi := by
  have hl := h.lt
  obtain ⟨j, hj, ht⟩ := h.top
  exact ⟨fun k h1 h2 => let ⟨i, a, b, c⟩ := h.mem k h1 h2; ⟨i, a, b, (e k h1 h2).trans c⟩, j, hj, (e _ (by omega) (by omega)).trans ht⟩
theorem Seg.max {a₀ xs : Array Keyed} {lo hi : Nat} (h : Seg a₀ xs lo hi) : ∀ k, lo ≤ k → k < hi → K xs k ≤ K xs (hi - 1) := by
  intro k h1 h2
  obtain ⟨j, ⟨_, _, hj⟩, ht⟩ := h.top
  obtain ⟨i, a, b, c⟩ := h.mem k h1 h2
  rw [K_congr c, K_congr ht]
  rcases hj i a b with q | q <;> omega
/-- one more, not below the last -/
theorem Seg.extend {a₀ xs : Array Keyed} {lo hi : Nat} (h : Seg a₀ xs lo hi) (e : xs[hi]? = a₀[hi]?) (hk : K xs (hi - 1) ≤ K xs hi) : Seg a₀ xs lo (hi + 1) := by
  have hl := h.lt
  obtain ⟨j, ⟨_, _, hj⟩, ht⟩ := h.top
  refine ⟨fun k h1 h2 => ?_, hi, ⟨by omega, by omega, fun i h1 h2 => ?_⟩, e⟩
  · by_cases q : k = hi
    · exact ⟨hi, by omega, by omega, by rw [q]; exact e⟩
    · obtain ⟨i, a, b, c⟩ := h.mem k h1 (by omega)
      exact ⟨i, a, by omega, c⟩
  · by_cases q : i = hi
    · exact .inr ⟨by rw [q], by omega⟩
    · rw [K_congr e, K_congr ht] at hk
      rcases hj i h1 (by omega) with z | z
      · exact .inl (by omega)
      · rcases Int.lt_or_eq_of_le hk with y | y
        · exact .inl (by omega)
        · exact .inr ⟨by omega, by omega⟩
structure SI (a₀ : Array Keyed) (st : SortSt) : Prop where
  kind : kindOf st = oneType'
  failed : failedOf st = none
  size : (arrOf st).size = a₀.size
  all : ∀ i, i < a₀.size → ∃ i', i' < a₀.size ∧ (arrOf st)[i]? = a₀[i']?
theorem SI.set {a₀ : Array Keyed} {st : SortSt} (h : SI a₀ st) {xs : Array Keyed} (hs : xs.size = a₀.size) (ha : ∀ i, i < a₀.size → ∃ i', i' < a₀.size ∧ xs[i]? = a₀[i']?) : SI a₀ (setArr st xs) := ⟨h.kind, h.failed, hs, ha⟩
theorem SI.mirror {a₀ : Array Keyed} {st : SortSt} (h : SI a₀ st) {i j : Nat} (hj : j ≤ a₀.size) : SI a₀ (setArr st (mirror (arrOf st) i j ((j - i) / 2))) := by
  refine h.set ((mirror_size ..).trans h.size) fun k hk => ?_
  rw [getElem?_mirror_all (by rw [h.size]; exact hj)]
  split
  · exact h.all _ (by omega)
  · exact h.all _ hk
section
variable {prog : Program} {w : World} {A : Around} {E : Value → Shared → Prop} {s : Shared} {a₀ : Array Keyed}
theorem int_at (h0 : IntKeys a₀) {xs : Array Keyed} {i i' : Nat} (hi : i' < a₀.size) (e : xs[i]? = a₀[i']?) : ∃ t q, xs[i]? = some (.int (K xs i) t, q) := by
  have e2 : a₀[i']? = some a₀[i'] := getElem?_pos a₀ i' hi
  obtain ⟨n, t, hn⟩ := h0 a₀[i'] (by simp)
  refine ⟨t, a₀[i'].2, ?_⟩
  have e3 : a₀[i'] = (.int n t, a₀[i'].2) := Prod.ext hn rfl
  unfold K
  rw [e, e2, e3]
  rfl
theorem SI.int {st : SortSt} (hB : SI a₀ st) (h0 : IntKeys a₀) {i : Nat} (hi : i < a₀.size) : ∃ t q, (arrOf st)[i]? = some (.int (K (arrOf st) i) t, q) :=
  let ⟨_, a, b⟩ := hB.all i hi; int_at h0 a b
theorem wpS_ltI {st : SortSt} {i j : Nat} {Q : Option Bool → SortSt → Prop} (hB : SI a₀ st) (h0 : IntKeys a₀) (hi : i < a₀.size) (hj : j < a₀.size)
    (h : Q (some (decide (K (arrOf st) i < K (arrOf st) j))) st) : wpS (model prog w) A E s (ltAt' i j) Q st := by
  obtain ⟨t, p, e1⟩ := hB.int h0 hi
  obtain ⟨u, q, e2⟩ := hB.int h0 hj
  exact wpS_ltAt hB.kind e1 e2 h
/-- what is known behind the first run, in the road of the falling run -/
structure Fall (a₀ xs xs' : Array Keyed) (lo n1 x : Nat) : Prop where
  size : xs'.size = a₀.size
  mem : ∀ k, lo ≤ k → k < lo + x → ∃ i, lo ≤ i ∧ i < lo + x ∧ xs'[k]? = a₀[i]?
  rest : ∀ k, lo + x ≤ k → xs'[k]? = a₀[k]?
  low : ∀ k, k < lo → xs'[k]? = xs[k]?
  first : xs'[lo]? = a₀[lo + n1 - 1]?
  tp : Tp a₀ lo (lo + x) (lo + n1 - 1)
theorem Fall.mirror {xs xs' : Array Keyed} {lo n1 x i : Nat} (h : Fall a₀ xs xs' lo n1 x) (hx : lo + x ≤ a₀.size) (hi : lo < i) : Fall a₀ xs (mirror xs' i (lo + x) ((lo + x - i) / 2)) lo n1 x := by
  have hm := fun k => getElem?_mirror_all (xs := xs') (i := i) (j := lo + x) (by rw [h.size]; exact hx) k
  refine ⟨(mirror_size ..).trans h.size, fun k h1 h2 => ?_, fun k h1 => ?_, fun k h1 => ?_, ?_, h.tp⟩
  · rw [hm]; split
    · exact h.mem _ (by omega) (by omega)
    · exact h.mem _ h1 h2
  · rw [hm, if_neg (by omega)]; exact h.rest k h1
  · rw [hm, if_neg (by omega)]; exact h.low k h1
  · rw [hm, if_neg (by omega)]; exact h.first
theorem Fall.seg {xs xs' : Array Keyed} {lo n1 x : Nat} (h : Fall a₀ xs xs' lo n1 x) (hx : lo + x ≤ a₀.size) (h1 : 1 ≤ x) : Seg a₀ (PyProof.Rows.mirror xs' lo (lo + x) ((lo + x - lo) / 2)) lo (lo + x) := by
  have hm := fun k => getElem?_mirror_all (xs := xs') (i := lo) (j := lo + x) (by rw [h.size]; exact hx) k
  refine ⟨fun k a b => ?_, lo + n1 - 1, h.tp, ?_⟩
  · rw [hm, if_pos ⟨a, b⟩]; exact h.mem _ (by omega) (by omega)
  · rw [hm, if_pos (by omega), show lo + (lo + x) - 1 - (lo + x - 1) = lo by omega]; exact h.first
end
end Mine
end

/- text S2 -/
section
open PySem PyProof.Rows
set_option maxRecDepth 100000
namespace Mine
section
variable {prog : Program} {w : World} {A : Around} {E : Value → Shared → Prop} {s : Shared} {a₀ : Array Keyed}
theorem wpS_rev {st : SortSt} {i j : Nat} {Q : Unit → SortSt → Prop} (h : Q () (setArr st (mirror (arrOf st) i j ((j - i) / 2)))) :
    wpS (model prog w) A E s (reverseSlice' i j) Q st := wpS_reverse h
/-- a run that does not fall, grown from n -/
theorem wpS_grow {st : SortSt} {lo n nrem : Nat} {Q : Option (Option Nat) × Nat → SortSt → Prop} (h0 : IntKeys a₀) (hB : SI a₀ st) (hn : lo + nrem ≤ a₀.size) (h1 : 1 ≤ n) (hnn : n ≤ nrem)
    (hs : Seg a₀ (arrOf st) lo (lo + n)) (hr : ∀ k, lo + n ≤ k → (arrOf st)[k]? = a₀[k]?)
    (h : ∀ m, n ≤ m → m ≤ nrem → Seg a₀ (arrOf st) lo (lo + m) → (∀ i, n ≤ i → i < m → K (arrOf st) (lo + i - 1) ≤ K (arrOf st) (lo + i)) → (m = nrem ∨ K (arrOf st) (lo + m) < K (arrOf st) (lo + m - 1)) → Q (none, m) st) :
    wpS (model prog w) A E s (forIn [n:nrem] ((none, n) : Option (Option Nat) × Nat) fun _ __s => do
      let __x ← ltAt' (lo + __s.snd) (lo + __s.snd - 1)
      match __x with
      | some smaller => if smaller = true then pure (ForInStep.done (none, __s.snd)) else pure (ForInStep.yield (none, __s.snd + 1))
      | _ => pure (ForInStep.done (some none, __s.snd))) Q st := by
  refine wpS_forRange (I := fun x c st' => st' = st ∧ c = (none, x) ∧ Seg a₀ (arrOf st) lo (lo + x) ∧ ∀ i, n ≤ i → i < x → K (arrOf st) (lo + i - 1) ≤ K (arrOf st) (lo + i)) ?step ?fin ⟨rfl, rfl, hs, fun i a b => by omega⟩
  case fin =>
    rintro c st' ⟨rfl, rfl, hs', hm⟩
    rw [show max n nrem = nrem by omega] at hs' hm ⊢
    exact h nrem hnn (Nat.le_refl _) hs' hm (.inl rfl)
  case step =>
    rintro x c st' hax hxn ⟨rfl, rfl, hs', hm⟩
    dsimp only
    refine wpS_bind (wpS_ltI hB h0 (by omega) (by omega) ?_)
    by_cases hless : K (arrOf st') (lo + x) < K (arrOf st') (lo + x - 1)
    · simp only [hless, decide_true, if_true]
      exact wpS_pure (h x hax (by omega) hs' hm (.inr hless))
    · simp only [hless, decide_false, Bool.false_eq_true, if_false]
      refine wpS_pure ⟨rfl, rfl, hs'.extend (hr _ (by omega)) (by omega), fun i a b => ?_⟩
      by_cases q : i = x
      · subst q; omega
      · exact hm i a (by omega)
theorem wpS_run {st : SortSt} {lo nrem : Nat} {Q : Option Nat → SortSt → Prop} (h0 : IntKeys a₀) (hB : SI a₀ st) (hn : lo + nrem ≤ a₀.size) (h1 : 1 ≤ nrem) (hr : ∀ k, lo ≤ k → (arrOf st)[k]? = a₀[k]?)
    (h : ∀ m xs', SI a₀ (setArr st xs') → 1 ≤ m → m ≤ nrem → Seg a₀ xs' lo (lo + m) → (∀ k, lo + m ≤ k → xs'[k]? = a₀[k]?) → (∀ k, k < lo → xs'[k]? = (arrOf st)[k]?) → Q (some m) (setArr st xs')) :
    wpS (model prog w) A E s (countRun' lo nrem) Q st := by
  rw [countRun'_eq]
  refine wpS_bind (wpS_grow h0 hB hn (Nat.le_refl 1) h1 (Seg.one (hr lo (Nat.le_refl _))) (fun k hk => hr k (by omega)) fun n hn1 hn2 hsn hmono hor => ?_)
  dsimp only
  by_cases hnn : n = nrem
  · rw [if_pos (by simpa using hnn)]
    exact wpS_pure (h n (arrOf st) hB hn1 hn2 hsn (fun k hk => hr k (by omega)) fun _ _ => rfl)
  rw [if_neg (by simpa using hnn)]
  have hlt : K (arrOf st) (lo + n) < K (arrOf st) (lo + n - 1) := hor.resolve_left hnn
  have hra : ∀ k, lo ≤ k → K (arrOf st) k = K a₀ k := fun k hk => K_congr (hr k hk)
  have hall : n > 1 → ¬K (arrOf st) lo < K (arrOf st) (lo + n - 1) → ∀ i, i < n → K (arrOf st) (lo + i) = K (arrOf st) (lo + n - 1) := fun _ hrose => by
    have up : ∀ i, i < n → K (arrOf st) lo ≤ K (arrOf st) (lo + i) := by
      intro i
      induction i with
      | zero => intro _; exact Int.le_refl _
      | succ i ih =>
        intro hi
        have := hmono (i + 1) (by omega) hi
        rw [show lo + (i + 1) - 1 = lo + i by omega] at this
        exact Int.le_trans (ih (by omega)) this
    intro i hi
    have a1 := up i hi
    have a2 := hsn.max (lo + i) (by omega) (by omega)
    omega
  have tp1 : (∀ i, i < n → K a₀ (lo + i) = K a₀ (lo + n - 1)) → Tp a₀ lo (lo + n) (lo + n - 1) := fun e => ⟨by omega, by omega, fun i a b => .inr ⟨by have := e (i - lo) (by omega); rwa [show lo + (i - lo) = i by omega] at this, by omega⟩⟩
  have hlt' : K a₀ (lo + n) < K a₀ (lo + n - 1) := by rw [← hra _ (by omega), ← hra _ (by omega)]; exact hlt
  obtain ⟨xs1, hx1⟩ : ∃ x, x = arrOf st := ⟨_, rfl⟩
  by_cases hgt : n > 1
  case' pos =>
    rw [if_pos hgt]
    refine wpS_bind (wpS_ltI hB h0 (by omega) (by omega) ?_)
    by_cases hrose : K (arrOf st) lo < K (arrOf st) (lo + n - 1)
    case' pos =>
      simp only [hrose, decide_true, if_true]
      exact wpS_pure (h n (arrOf st) hB hn1 hn2 hsn (fun k hk => hr k (by omega)) fun _ _ => rfl)
    simp only [hrose, decide_false, Bool.false_eq_true, if_false]
    refine wpS_bind (wpS_rev ?_)
    have hm := fun k => getElem?_mirror_all (xs := arrOf st) (i := lo) (j := lo + n) (by rw [hB.size]; omega) k
    have hF : Fall a₀ (arrOf st) (mirror (arrOf st) lo (lo + n) ((lo + n - lo) / 2)) lo n n := by
      refine ⟨(mirror_size ..).trans hB.size, fun k a b => ?_, fun k a => ?_, fun k a => ?_, ?_, ?_⟩
      · exact ⟨lo + (lo + n) - 1 - k, by omega, by omega, by rw [hm, if_pos ⟨a, b⟩]; exact hr _ (by omega)⟩
      · rw [hm, if_neg (by omega)]; exact hr k (by omega)
      · rw [hm, if_neg (by omega)]
      · rw [hm, if_pos (by omega), show lo + (lo + n) - 1 - lo = lo + n - 1 by omega]; exact hr _ (by omega)
      · exact tp1 fun i hi => by rw [← hra _ (by omega), ← hra _ (by omega)]; exact hall hgt hrose i hi
    have hS : SI a₀ (setArr st (mirror (arrOf st) lo (lo + n) ((lo + n - lo) / 2))) := hB.mirror (by omega)
    clear hx1 hm
    revert hF hS
    generalize mirror (arrOf st) lo (lo + n) ((lo + n - lo) / 2) = xs1
    intro hF hS
  case' neg =>
    rw [if_neg hgt]
    have hn1' : n = 1 := by omega
    have hF : Fall a₀ (arrOf st) xs1 lo n n := by
      rw [hx1]
      refine ⟨hB.size, fun k a b => ⟨k, a, b, hr k a⟩, fun k a => hr k (by omega), fun _ _ => rfl, by rw [show lo + n - 1 = lo by omega]; exact hr lo (Nat.le_refl _), tp1 fun i hi => by congr 1; omega⟩
    have hS : SI a₀ (setArr st xs1) := by rw [hx1]; exact hB
    have hst : st = setArr st xs1 := by rw [hx1]
    rw [hst]
    clear hx1 hst
  all_goals (
    refine wpS_bind (wpS_lift (wpAny_rule ⟨rfl, ?_⟩))
    have rest3 : ∀ x xs', SI a₀ (setArr st xs') → Fall a₀ (arrOf st) xs' lo n x → n + 1 ≤ x → x ≤ nrem →
        ∀ xs3, xs3 = mirror xs' lo (lo + x) ((lo + x - lo) / 2) → Seg a₀ xs3 lo (lo + x) ∧ SI a₀ (setArr st xs3) ∧ (∀ k, lo + x ≤ k → xs3[k]? = a₀[k]?) ∧ (∀ k, k < lo → xs3[k]? = (arrOf st)[k]?) := by
      rintro x xs' hS' hF' hx1 hx2 xs3 rfl
      have hm := fun k => getElem?_mirror_all (xs := xs') (i := lo) (j := lo + x) (by rw [hF'.size]; omega) k
      exact ⟨hF'.seg (by omega) (by omega), hS'.mirror (by omega), fun k hk => by rw [hm, if_neg (by omega)]; exact hF'.rest k hk, fun k hk => by rw [hm, if_neg (by omega)]; exact hF'.low k hk⟩
    refine wpS_bind (wpS_mono (wpS_forRange (I := fun x c st' => ∃ neq xs', c = (none, x, neq) ∧ st' = setArr st xs' ∧ SI a₀ (setArr st xs') ∧ Fall a₀ (arrOf st) xs' lo n x ∧ neq + 1 + n ≤ x ∧ K xs' (lo + x - 1) < K a₀ (lo + n - 1))
      (Q := fun c st' => ∃ x neq xs', c = (none, x, neq) ∧ st' = setArr st xs' ∧ SI a₀ (setArr st xs') ∧ Fall a₀ (arrOf st) xs' lo n x ∧ neq + 1 + n ≤ x ∧ x ≤ nrem) ?step ?fin ⟨0, xs1, rfl, rfl, hS, ⟨hF.size, fun k a b => ?m1, fun k a => hF.rest k (by omega), hF.low, hF.first, ?m2⟩, by omega, ?m3⟩) ?post)
    case m1 =>
      by_cases q : k < lo + n
      · obtain ⟨i, a1, a2, a3⟩ := hF.mem k a q
        exact ⟨i, a1, by omega, a3⟩
      · exact ⟨k, a, by omega, hF.rest k (by omega)⟩
    case m2 =>
      refine ⟨by omega, by omega, fun i a b => ?_⟩
      by_cases q : i < lo + n
      · exact hF.tp.2.2 i a q
      · exact .inl (by rw [show i = lo + n by omega]; exact hlt')
    case m3 => rw [show lo + (n + 1) - 1 = lo + n by omega, K_congr (hF.rest _ (Nat.le_refl _))]; exact hlt'
    case step =>
      rintro x c st' hax hxn ⟨neq, xs', rfl, rfl, hS', hF', hq, hlast⟩
      dsimp only
      have enl : ∀ ys, SI a₀ (setArr st ys) → Fall a₀ (arrOf st) ys lo n x → K a₀ (lo + x) < K a₀ (lo + n - 1) → ∀ neq', neq' + 1 + n ≤ x + 1 → ∃ neq xs', ((none, x + 1, neq') : Option (Option Nat) × Nat × Nat) = (none, x + 1, neq) ∧ setArr st ys = setArr st xs' ∧ SI a₀ (setArr st xs') ∧ Fall a₀ (arrOf st) xs' lo n (x + 1) ∧ neq + 1 + n ≤ x + 1 ∧ K xs' (lo + (x + 1) - 1) < K a₀ (lo + n - 1) := by
        intro ys hSy hFy hlow neq' hneq'
        refine ⟨neq', ys, rfl, rfl, hSy, ⟨hFy.size, fun k a b => ?_, fun k a => hFy.rest k (by omega), hFy.low, hFy.first, ⟨by omega, by omega, fun i a b => ?_⟩⟩, hneq', by rw [show lo + (x + 1) - 1 = lo + x by omega, K_congr (hFy.rest _ (Nat.le_refl _))]; exact hlow⟩
        · by_cases q : k < lo + x
          · obtain ⟨i, a1, a2, a3⟩ := hFy.mem k a q
            exact ⟨i, a1, by omega, a3⟩
          · exact ⟨k, a, by omega, hFy.rest k (by omega)⟩
        · by_cases q : i < lo + x
          · exact hFy.tp.2.2 i a q
          · exact .inl (by rw [show i = lo + x by omega]; exact hlow)
      refine wpS_bind (wpS_ltI hS' h0 (by omega) (by omega) ?_)
      have ex : K xs' (lo + x) = K a₀ (lo + x) := K_congr (hF'.rest _ (Nat.le_refl _))
      show wpS _ _ _ _ (if decide (K xs' (lo + x) < K xs' (lo + x - 1)) = true then _ else _) _ _
      by_cases hless : K xs' (lo + x) < K xs' (lo + x - 1)
      · rw [if_pos (by simpa using hless)]
        by_cases hneq : neq > 0
        · rw [if_pos hneq]
          have hFm := hF'.mirror (i := lo + x - (neq + 1)) (by omega) (by omega)
          refine wpS_bind (wpS_rev (wpS_pure ?_))
          exact enl _ (hS'.mirror (i := lo + x - (neq + 1)) (by omega)) hFm (by omega) 0 (by omega)
        · rw [if_neg hneq]
          exact wpS_pure (enl _ hS' hF' (by omega) 0 (by omega))
      · rw [if_neg (by simpa using hless)]
        refine wpS_bind (wpS_ltI hS' h0 (by omega) (by omega) ?_)
        show wpS _ _ _ _ (if decide (K xs' (lo + x - 1) < K xs' (lo + x)) = true then _ else _) _ _
        by_cases hlarger : K xs' (lo + x - 1) < K xs' (lo + x)
        · rw [if_pos (by simpa using hlarger)]
          exact wpS_pure ⟨x, neq, xs', rfl, rfl, hS', hF', hq, by omega⟩
        · rw [if_neg (by simpa using hlarger)]
          exact wpS_pure (enl _ hS' hF' (by omega) (neq + 1) (by omega))
    case fin =>
      rintro c st' ⟨neq, xs', rfl, rfl, hS', hF', hq, _⟩
      rw [show max (n + 1) nrem = nrem by omega] at hF' hq ⊢
      exact ⟨nrem, neq, xs', rfl, rfl, hS', hF', hq, Nat.le_refl _⟩
    case post =>
      rintro c st' ⟨x, neq, xs', rfl, rfl, hS', hF', hq, hxn⟩
      dsimp only
      by_cases hneq : neq > 0
      · rw [if_pos hneq]
        obtain ⟨b1, b2, b3, b4⟩ := rest3 x _ (hS'.mirror (i := lo + x - (neq + 1)) (j := lo + x) (by omega)) (hF'.mirror (i := lo + x - (neq + 1)) (by omega) (by omega)) (by omega) hxn _ rfl
        refine wpS_bind (wpS_rev (wpS_bind (wpS_rev (wpS_bind (wpS_grow h0 b2 hn (by omega) hxn b1 b3 fun m hm1 hm2 hsm _ _ => wpS_pure ?_)))))
        exact h m _ b2 (by omega) hm2 hsm (fun k hk => b3 k (by omega)) b4
      · rw [if_neg hneq]
        obtain ⟨b1, b2, b3, b4⟩ := rest3 x _ hS' hF' (by omega) hxn _ rfl
        refine wpS_bind (wpS_rev (wpS_bind (wpS_grow h0 b2 hn (by omega) hxn b1 b3 fun m hm1 hm2 hsm _ _ => wpS_pure ?_)))
        exact h m _ b2 (by omega) hm2 hsm (fun k hk => b3 k (by omega)) b4)
end
end Mine
end

/- text S3 -/
section
open PySem PyProof.Rows
set_option maxRecDepth 100000
namespace Mine
theorem bubble_zero {α : Type} (xs : Array α) (src : Nat) : bubble xs src 0 = xs := rfl
theorem Seg.insert {a₀ xs : Array Keyed} {lo k l m : Nat} (h : Seg a₀ xs lo (lo + k)) (hs : lo + k < xs.size) (e : xs[lo + k]? = a₀[lo + k]?) (hl : l < k) (hm : m < k) (hlt : K xs (lo + k) < K xs (lo + m)) :
    Seg a₀ (bubble xs (lo + k) (lo + k - (lo + l))) lo (lo + (k + 1)) := by
  have hb := fun j => getElem?_bubble hs (lo + k - (lo + l)) (by omega) j
  obtain ⟨j, ⟨j1, j2, hj⟩, ht⟩ := h.top
  refine ⟨fun i h1 h2 => ?_, j, ⟨j1, by omega, fun i h1 h2 => ?_⟩, ?_⟩
  · rw [hb]
    split
    · exact ⟨lo + k, by omega, by omega, e⟩
    · split
      · obtain ⟨i', a, b, c⟩ := h.mem (i - 1) (by omega) (by omega)
        exact ⟨i', a, by omega, c⟩
      · obtain ⟨i', a, b, c⟩ := h.mem i h1 (by omega)
        exact ⟨i', a, by omega, c⟩
  · by_cases q : i < lo + k
    · exact hj i h1 q
    · have hmax := h.max (lo + m) (by omega) (by omega)
      rw [K_congr ht] at hmax
      rw [K_congr e] at hlt
      exact .inl (by rw [show i = lo + k by omega]; omega)
  · rw [hb, if_neg (by omega), if_pos (by omega)]
    rw [show lo + (k + 1) - 1 - 1 = lo + k - 1 by omega]; exact ht
section
variable {prog : Program} {w : World} {A : Around} {E : Value → Shared → Prop} {s : Shared} {a₀ : Array Keyed}
theorem SI.bubble {st : SortSt} (h : SI a₀ st) {i d : Nat} (hi : i < a₀.size) (hd : d ≤ i) : SI a₀ (setArr st (bubble (arrOf st) i d)) := by
  refine h.set ((bubble_size ..).trans h.size) fun k hk => ?_
  rw [getElem?_bubble (by rw [h.size]; exact hi) d hd]
  split
  · exact h.all _ hi
  · split
    · exact h.all _ (by omega)
    · exact h.all _ hk
theorem wpS_binary {st : SortSt} {lo n ok : Nat} {Q : Bool → SortSt → Prop} (h0 : IntKeys a₀) (hn : lo + n ≤ a₀.size) (h1 : 1 ≤ ok) (hok : ok ≤ n) (hB : SI a₀ st) (hs : Seg a₀ (arrOf st) lo (lo + ok)) (hr : ∀ k, lo + ok ≤ k → (arrOf st)[k]? = a₀[k]?)
    (h : ∀ xs', SI a₀ (setArr st xs') → Seg a₀ xs' lo (lo + n) → (∀ k, lo + n ≤ k → xs'[k]? = a₀[k]?) → (∀ k, k < lo → xs'[k]? = (arrOf st)[k]?) → Q true (setArr st xs')) : wpS (model prog w) A E s (binarySort' lo n ok) Q st := by
  rw [binarySort'_eq]
  refine wpS_bind (wpS_mono (wpS_forRange (I := fun k c st' => c = (none, ()) ∧ ∃ xs', st' = setArr st xs' ∧ SI a₀ (setArr st xs') ∧ Seg a₀ xs' lo (lo + k) ∧ (∀ i, lo + k ≤ i → xs'[i]? = a₀[i]?) ∧ (∀ i, i < lo → xs'[i]? = (arrOf st)[i]?))
    (Q := fun c st' => c = (none, ()) ∧ ∃ xs', st' = setArr st xs' ∧ SI a₀ (setArr st xs') ∧ Seg a₀ xs' lo (lo + n) ∧ (∀ i, lo + n ≤ i → xs'[i]? = a₀[i]?) ∧ (∀ i, i < lo → xs'[i]? = (arrOf st)[i]?)) ?step ?fin ?init) ?post)
  case post =>
    rintro c st' ⟨rfl, xs', rfl, a, b, c, d⟩
    exact wpS_pure (h xs' a b c d)
  case init =>
    rw [show max ok 1 = ok by omega]
    exact ⟨rfl, arrOf st, rfl, hB, hs, hr, fun _ _ => rfl⟩
  case fin =>
    rintro c st' ⟨hc, xs', hst, a, b, c, d⟩
    rw [show max (max ok 1) n = n by omega] at b c
    exact ⟨hc, xs', hst, a, b, c, d⟩
  case step =>
    rintro k c st' hak hkn ⟨rfl, xs', rfl, hB', hs', hr', hl'⟩
    have hk : lo + k < a₀.size := by omega
    refine wpS_bind (wpS_mono (wpS_forRange (I := fun x c st'' => st'' = setArr st xs' ∧ ∃ l r, c = (none, l, r) ∧ l ≤ r ∧ r ≤ k ∧ r - l ≤ k - x ∧
        (0 < l → K xs' (lo + l - 1) ≤ K xs' (lo + k)) ∧ (r < k → ∃ m, m < k ∧ K xs' (lo + k) < K xs' (lo + m)))
      (Q := fun c st'' => st'' = setArr st xs' ∧ ∃ l r, c = (none, l, r) ∧ l ≤ k ∧
        (0 < l → K xs' (lo + l - 1) ≤ K xs' (lo + k)) ∧ (l < k → ∃ m, m < k ∧ K xs' (lo + k) < K xs' (lo + m))) ?istep ?ifin ?iinit) ?ipost)
    case iinit => exact ⟨rfl, 0, k, rfl, by omega, by omega, by omega, fun i => by omega, fun i => by omega⟩
    case ifin =>
      rintro c st'' ⟨rfl, l, r, rfl, hlr, hrk, hm, hlo, hhi⟩
      have : l = r := by omega
      subst this
      exact ⟨rfl, l, l, rfl, hrk, hlo, hhi⟩
    case istep =>
      rintro x c st'' _ hxk ⟨rfl, l, r, rfl, hlr, hrk, hm, hlo, hhi⟩
      dsimp only
      by_cases hge : l ≥ r
      · rw [if_pos hge]
        have : l = r := by omega
        subst this
        exact wpS_pure ⟨rfl, l, l, rfl, hrk, hlo, hhi⟩
      · rw [if_neg hge]
        refine wpS_bind (wpS_ltI hB' h0 hk (by omega) ?_)
        show wpS _ _ _ _ (if decide (K xs' (lo + k) < K xs' (lo + (l + r) / 2)) = true then _ else _) _ _
        by_cases hless : K xs' (lo + k) < K xs' (lo + (l + r) / 2)
        · rw [if_pos (by simpa using hless)]
          exact wpS_pure ⟨rfl, l, (l + r) / 2, rfl, by omega, by omega, by omega, hlo, fun _ => ⟨(l + r) / 2, by omega, hless⟩⟩
        · rw [if_neg (by simpa using hless)]
          exact wpS_pure ⟨rfl, (l + r) / 2 + 1, r, rfl, by omega, by omega, by omega, fun _ => by rw [show lo + ((l + r) / 2 + 1) - 1 = lo + (l + r) / 2 by omega]; omega, hhi⟩
    case ipost =>
      rintro c st'' ⟨rfl, l, r, rfl, hlk, hlo, hhi⟩
      show wpS _ _ _ _ (do moveDown' (lo + k) (lo + l); pure (ForInStep.yield (none, ()))) _ _
      rw [moveDown'_eq]
      have hks : lo + k < xs'.size := by have := hB'.size; show lo + k < xs'.size; rw [show xs'.size = a₀.size from this]; exact hk
      have hb := fun j => getElem?_bubble hks (lo + k - (lo + l)) (by omega) j
      have hSI : SI a₀ (setArr st (bubble xs' (lo + k) (lo + k - (lo + l)))) := SI.bubble hB' hk (by omega)
      refine wpS_bind (wpS_modify (wpS_pure ⟨rfl, bubble xs' (lo + k) (lo + k - (lo + l)), rfl, hSI, ?_, fun i hi => ?_, fun i hi => ?_⟩))
      · by_cases q : l = k
        · subst q
          rw [Nat.sub_self, bubble_zero]
          exact hs'.extend (hr' _ (Nat.le_refl _)) (hlo (by omega))
        · obtain ⟨m, hm1, hm2⟩ := hhi (by omega)
          exact hs'.insert hks (hr' _ (Nat.le_refl _)) (by omega) hm1 hm2
      · rw [hb, if_neg (by omega), if_neg (by omega)]; exact hr' i (by omega)
      · rw [hb, if_neg (by omega), if_neg (by omega)]; exact hl' i hi
end
end Mine
end

/- text S4 -/
section
open PySem PyProof.Rows
set_option maxRecDepth 100000
namespace Mine
def gallop' : Bool → Keyed → Array Keyed → Nat → Nat → Nat → StateT SortSt Sem (Option Nat) := sortPriv% PySem.Builtin.gallop
section
variable {prog : Program} {w : World} {A : Around} {E : Value → Shared → Prop} {s : Shared}
/-- beyond the key, as the gallop asks it -/
abbrev Byd (left : Bool) (kk : Int) (arr : Array Keyed) (i : Nat) : Prop := if left then K arr i < kk else K arr i ≤ kk
theorem wpS_lt {st : SortSt} {a b : Int} {t u : Tok} {p q : Value} {Q : Option Bool → SortSt → Prop} (hk : kindOf st = oneType') (h : Q (some (decide (a < b))) st) :
    wpS (model prog w) A E s (lt' (.int a t, p) (.int b u, q)) Q st := by
  rw [lt'_eq]
  refine wpS_bind (wpS_get ?_)
  rw [hk, keyLt'_oneType]
  refine wpS_bind (wpS_lift (wpAny_attempt (oneLt_int ⟨rfl, ?_⟩)))
  exact wpS_pure h
theorem wpS_elem {st : SortSt} {arr : Array Keyed} {i : Nat} {p : Keyed} {Q : Keyed → SortSt → Prop} (e : arr[i]? = some p) (h : Q p st) : wpS (model prog w) A E s (elem' arr i) Q st := by
  rw [elem'_eq, e]; exact wpS_pure h
theorem wpS_beyond {st : SortSt} {left : Bool} {kk : Int} {kt : Tok} {kv : Value} {arr : Array Keyed} {j : Nat} {Q : Option Bool → SortSt → Prop} (hk : kindOf st = oneType') (hI : ∃ t q, arr[j]? = some (.int (K arr j) t, q))
    (h : Q (some (decide (Byd left kk arr j))) st) :
    wpS (model prog w) A E s (do
      let x ← elem' arr j
      if left = true then lt' x (.int kk kt, kv) else do
        let r ← lt' (.int kk kt, kv) x
        pure (Option.map (fun x => !x) r)) Q st := by
  obtain ⟨t, q, e⟩ := hI
  refine wpS_bind (wpS_elem e ?_)
  cases left with
  | true =>
    rw [if_pos rfl]
    exact wpS_lt hk (by simpa [Byd] using h)
  | false =>
    rw [if_neg (by decide)]
    refine wpS_bind (wpS_lt hk (wpS_pure ?_))
    have : (some (decide (kk < K arr j))).map (fun x => !x) = some (decide (Byd false kk arr j)) := by
      simp only [Option.map_some, Option.some.injEq]
      by_cases z : kk < K arr j
      · simp [Byd, z]
      · simp [Byd, z, Int.not_lt.mp z]
    rw [this]; exact h
theorem wpS_gallop {st : SortSt} {left : Bool} {kk : Int} {kt : Tok} {kv : Value} {arr : Array Keyed} {base n hint : Nat} {Q : Option Nat → SortSt → Prop} (hk : kindOf st = oneType') (hI : ∀ i, base ≤ i → i < base + n → ∃ t q, arr[i]? = some (.int (K arr i) t, q)) (h1 : 1 ≤ n) (hh : hint < n)
    (h : ∀ r, r ≤ n → (0 < r → Byd left kk arr (base + (r - 1))) → (r < n → ¬Byd left kk arr (base + r)) → Q (some r) st) :
    wpS (model prog w) A E s (gallop' left (.int kk kt, kv) arr base n hint) Q st := by
  have bin : ∀ lo hi, lo ≤ hi → hi ≤ n → (0 < lo → Byd left kk arr (base + (lo - 1))) → (hi < n → ¬Byd left kk arr (base + hi)) → ∀ (f : Nat → Option (Option Nat) × Nat × Nat → StateT SortSt Sem (ForInStep (Option (Option Nat) × Nat × Nat))) (Q' : Option (Option Nat) × Nat × Nat → SortSt → Prop),
      (∀ x l r, f x (none, l, r) = if l ≥ r then pure (ForInStep.done (none, l, r)) else do
        let o ← (do
          let x ← elem' arr (base + (l + (r - l) / 2))
          if left = true then lt' x (.int kk kt, kv) else do
            let r ← lt' (.int kk kt, kv) x
            pure (Option.map (fun x => !x) r))
        match o with
        | some more => if more = true then pure (ForInStep.yield (none, l + (r - l) / 2 + 1, r)) else pure (ForInStep.yield (none, l, l + (r - l) / 2))
        | _ => pure (ForInStep.done (some none, l, r))) →
      (∀ r, r ≤ n → (0 < r → Byd left kk arr (base + (r - 1))) → (r < n → ¬Byd left kk arr (base + r)) → Q' (none, r, r) st) → wpS (model prog w) A E s (forIn [0:n] ((none, lo, hi) : Option (Option Nat) × Nat × Nat) f) Q' st := by
    intro lo hi hlh hhn hB1 hB2 f Q' hf hQ
    refine wpS_forRange (I := fun x c st' => st' = st ∧ ∃ l r, c = (none, l, r) ∧ l ≤ r ∧ r ≤ n ∧ r - l ≤ n - x ∧ (0 < l → Byd left kk arr (base + (l - 1))) ∧ (r < n → ¬Byd left kk arr (base + r))) ?step ?fin ⟨rfl, lo, hi, rfl, hlh, hhn, by omega, hB1, hB2⟩
    case fin =>
      rintro c st' ⟨rfl, l, r, rfl, a1, a2, a3, a4, a5⟩
      have : l = r := by omega
      subst this
      exact hQ l a2 a4 a5
    case step =>
      rintro x c st' _ hxn ⟨rfl, l, r, rfl, a1, a2, a3, a4, a5⟩
      rw [hf]
      by_cases hge : l ≥ r
      · rw [if_pos hge]
        have : l = r := by omega
        subst this
        exact wpS_pure (hQ l a2 a4 a5)
      · rw [if_neg hge]
        refine wpS_bind (wpS_beyond hk (hI _ (by omega) (by omega)) ?_)
        by_cases z : Byd left kk arr (base + (l + (r - l) / 2))
        · simp only [z, decide_true, if_true]
          exact wpS_pure ⟨rfl, _, r, rfl, by omega, a2, by omega, fun _ => z, a5⟩
        · simp only [z, decide_false, Bool.false_eq_true, if_false]
          exact wpS_pure ⟨rfl, l, _, rfl, by omega, by omega, by omega, a4, fun _ => z⟩
  unfold gallop'
  refine wpS_bind (wpS_beyond hk (hI _ (by omega) (by omega)) ?_)
  dsimp only
  by_cases z : Byd left kk arr (base + hint)
  · simp only [z, decide_true, if_true]
    refine wpS_bind (wpS_mono (wpS_forRange (I := fun x c st' => st' = st ∧ ∃ lastofs ofs, c = (none, lastofs, ofs) ∧ lastofs < ofs ∧ lastofs < n - hint ∧ x + 1 ≤ ofs ∧ Byd left kk arr (base + (hint + lastofs)))
      (Q := fun c st' => st' = st ∧ ∃ lastofs ofs, c = (none, lastofs, ofs) ∧ lastofs < ofs ∧ lastofs < n - hint ∧ Byd left kk arr (base + (hint + lastofs)) ∧ (ofs < n - hint → ¬Byd left kk arr (base + (hint + ofs)))) ?step ?fin ⟨rfl, 0, 1, rfl, by omega, by omega, by omega, z⟩) ?post)
    case fin =>
      rintro c st' ⟨rfl, lastofs, ofs, rfl, a1, a2, a3, a4⟩
      exact ⟨rfl, lastofs, ofs, rfl, a1, a2, a4, fun q => by omega⟩
    case step =>
      rintro x c st' _ hxn ⟨rfl, lastofs, ofs, rfl, a1, a2, a3, a4⟩
      dsimp only
      by_cases hge : ofs ≥ n - hint
      · rw [if_pos hge]
        exact wpS_pure ⟨rfl, lastofs, ofs, rfl, a1, a2, a4, fun q => by omega⟩
      · rw [if_neg hge]
        refine wpS_bind (wpS_beyond hk (hI _ (by omega) (by omega)) ?_)
        by_cases y : Byd left kk arr (base + (hint + ofs))
        · simp only [y, decide_true, Bool.not_true, Bool.false_eq_true, if_false]
          exact wpS_pure ⟨rfl, ofs, 2 * ofs + 1, rfl, by omega, by omega, by omega, y⟩
        · simp only [y, decide_false, Bool.not_false, if_true]
          exact wpS_pure ⟨rfl, lastofs, ofs, rfl, a1, a2, a4, fun _ => y⟩
    case post =>
      rintro c st' ⟨rfl, lastofs, ofs, rfl, a1, a2, a4, a5⟩
      dsimp only
      refine wpS_bind (bin _ _ (by omega) (by omega) (fun _ => by rw [show hint + lastofs + 1 - 1 = hint + lastofs by omega]; exact a4) (fun q => by rw [show min ofs (n - hint) = ofs by omega] at q ⊢; exact a5 (by omega)) _ _ (fun x l r => rfl) fun r b1 b2 b3 => wpS_pure (h r b1 b2 b3))
  · simp only [z, decide_false, Bool.false_eq_true, if_false]
    refine wpS_bind (wpS_mono (wpS_forRange (I := fun x c st' => st' = st ∧ ∃ lastofs ofs, c = (none, lastofs, ofs) ∧ lastofs < ofs ∧ lastofs < hint + 1 ∧ x + 1 ≤ ofs ∧ ¬Byd left kk arr (base + (hint - lastofs)))
      (Q := fun c st' => st' = st ∧ ∃ lastofs ofs, c = (none, lastofs, ofs) ∧ lastofs < ofs ∧ lastofs < hint + 1 ∧ ¬Byd left kk arr (base + (hint - lastofs)) ∧ (ofs < hint + 1 → Byd left kk arr (base + (hint - ofs)))) ?step ?fin ⟨rfl, 0, 1, rfl, by omega, by omega, by omega, z⟩) ?post)
    case fin =>
      rintro c st' ⟨rfl, lastofs, ofs, rfl, a1, a2, a3, a4⟩
      exact ⟨rfl, lastofs, ofs, rfl, a1, a2, a4, fun q => by omega⟩
    case step =>
      rintro x c st' _ hxn ⟨rfl, lastofs, ofs, rfl, a1, a2, a3, a4⟩
      dsimp only
      by_cases hge : ofs ≥ hint + 1
      · rw [if_pos hge]
        exact wpS_pure ⟨rfl, lastofs, ofs, rfl, a1, a2, a4, fun q => by omega⟩
      · rw [if_neg hge]
        refine wpS_bind (wpS_beyond hk (hI _ (by omega) (by omega)) ?_)
        by_cases y : Byd left kk arr (base + (hint - ofs))
        · simp only [y, decide_true, if_true]
          exact wpS_pure ⟨rfl, lastofs, ofs, rfl, a1, a2, a4, fun _ => y⟩
        · simp only [y, decide_false, Bool.false_eq_true, if_false]
          exact wpS_pure ⟨rfl, ofs, 2 * ofs + 1, rfl, by omega, by omega, by omega, y⟩
    case post =>
      rintro c st' ⟨rfl, lastofs, ofs, rfl, a1, a2, a4, a5⟩
      dsimp only
      refine wpS_bind (bin _ _ (by omega) (by omega) (fun q => by
        have q' : ofs < hint + 1 := by omega
        rw [show hint + 1 - min ofs (hint + 1) - 1 = hint - ofs by omega]; exact a5 q') (fun _ => a4) _ _ (fun x l r => rfl) fun r b1 b2 b3 => wpS_pure (h r b1 b2 b3))
end
end Mine
end

/- text S5 -/
section
open PySem PyProof.Rows
set_option maxRecDepth 100000
namespace Mine
def mergeLo' : Array Keyed → Array Keyed → StateT SortSt Sem (Array Keyed) := sortPriv% PySem.Builtin.mergeLo
def mergeHi' : Array Keyed → Array Keyed → StateT SortSt Sem (Array Keyed) := sortPriv% PySem.Builtin.mergeHi
abbrev setG (st : SortSt) (g : Nat) : SortSt := SortSt.mk' (kindOf st) (arrOf st) (pendingOf st) g (failedOf st)
structure Good (a b m : Array Keyed) : Prop where
  size : m.size = a.size + b.size
  mem : ∀ p ∈ m, p ∈ a ∨ p ∈ b
  last : (∀ i, i < b.size → K b i < K a (a.size - 1)) → m[m.size - 1]? = a[a.size - 1]?
theorem mem_ext {a : Array Keyed} {i j : Nat} {p : Keyed} (h : p ∈ a.extract i j) : p ∈ a := by
  obtain ⟨k, hk, rfl⟩ := Array.mem_iff_getElem.mp h
  rw [Array.getElem_extract]
  exact Array.getElem_mem _
theorem last_app {xs ys : Array Keyed} (h : 0 < ys.size) : (xs ++ ys)[(xs ++ ys).size - 1]? = ys[ys.size - 1]? := by
  rw [Array.getElem?_append, Array.size_append, if_neg (by omega)]
  congr 1
  omega
theorem last_ext {a : Array Keyed} {i : Nat} (h : i < a.size) : (a.extract i a.size)[(a.extract i a.size).size - 1]? = a[a.size - 1]? := by
  rw [Array.getElem?_extract, Array.size_extract]
  rw [if_pos (by omega)]
  congr 1
  omega
theorem ext_size {a : Array Keyed} {i : Nat} : (a.extract i a.size).size = a.size - i := by rw [Array.size_extract]; omega
theorem ext_nil {a : Array Keyed} {i : Nat} (h : a.size ≤ i) : a.extract i a.size = #[] := by
  apply Array.eq_empty_of_size_eq_zero; rw [ext_size]; omega
/-- the two ends of a merge from below -/
theorem good_done {a b out : Array Keyed} {ia ib : Nat} (hs : out.size = ia + ib) (hm : ∀ p ∈ out, p ∈ a ∨ p ∈ b) (ha : ia ≤ a.size) (hb : ib ≤ b.size)
    (hl : (∀ i, i < b.size → K b i < K a (a.size - 1)) → ia < a.size ∧ ib = b.size) : Good a b (out ++ a.extract ia a.size ++ b.extract ib b.size) := by
  refine ⟨by simp only [Array.size_append, ext_size]; omega, fun p hp => ?_, fun q => ?_⟩
  · rcases Array.mem_append.mp hp with z | z
    · rcases Array.mem_append.mp z with z | z
      · exact hm p z
      · exact .inl (mem_ext z)
    · exact .inr (mem_ext z)
  · obtain ⟨h1, h2⟩ := hl q
    rw [ext_nil (a := b) (by omega), Array.append_empty, last_app (by rw [ext_size]; omega), last_ext h1]
theorem good_lastA {a b out : Array Keyed} {ia ib : Nat} (hs : out.size = ia + ib) (hm : ∀ p ∈ out, p ∈ a ∨ p ∈ b) (ha : ia + 1 = a.size) (hb : ib ≤ b.size) : Good a b (out ++ b.extract ib b.size ++ a.extract ia a.size) := by
  refine ⟨by simp only [Array.size_append, ext_size]; omega, fun p hp => ?_, fun q => ?_⟩
  · rcases Array.mem_append.mp hp with z | z
    · rcases Array.mem_append.mp z with z | z
      · exact hm p z
      · exact .inr (mem_ext z)
    · exact .inl (mem_ext z)
  · rw [last_app (by rw [ext_size]; omega), last_ext (by omega)]
structure LoI (a b out : Array Keyed) (ia ib : Nat) : Prop where
  size : out.size = ia + ib
  mem : ∀ p ∈ out, p ∈ a ∨ p ∈ b
  ha : ia ≤ a.size
  hb : ib ≤ b.size
theorem mem_of_get {a : Array Keyed} {i : Nat} {p : Keyed} (e : a[i]? = some p) : p ∈ a := by
  obtain ⟨h, e'⟩ := Array.getElem?_eq_some_iff.mp e
  exact e' ▸ Array.getElem_mem h
theorem LoI.pushB {a b out : Array Keyed} {ia ib : Nat} {p : Keyed} (h : LoI a b out ia ib) (hb : ib < b.size) (e : b[ib]? = some p) : LoI a b (out.push p) ia (ib + 1) :=
  ⟨by rw [Array.size_push, h.size]; omega, fun q hq => (Array.mem_push.mp hq).elim (h.mem q) (fun z => .inr (z ▸ mem_of_get e)), h.ha, hb⟩
theorem LoI.pushA {a b out : Array Keyed} {ia ib : Nat} {p : Keyed} (h : LoI a b out ia ib) (ha : ia < a.size) (e : a[ia]? = some p) : LoI a b (out.push p) (ia + 1) ib :=
  ⟨by rw [Array.size_push, h.size]; omega, fun q hq => (Array.mem_push.mp hq).elim (h.mem q) (fun z => .inl (z ▸ mem_of_get e)), ha, h.hb⟩
theorem LoI.extA {a b out : Array Keyed} {ia ib k : Nat} (h : LoI a b out ia ib) (hk : ia + k ≤ a.size) : LoI a b (out ++ a.extract ia (ia + k)) (ia + k) ib :=
  ⟨by rw [Array.size_append, Array.size_extract, h.size]; omega, fun q hq => (Array.mem_append.mp hq).elim (h.mem q) (fun z => .inl (mem_ext z)), hk, h.hb⟩
theorem LoI.extB {a b out : Array Keyed} {ia ib k : Nat} (h : LoI a b out ia ib) (hk : ib + k ≤ b.size) : LoI a b (out ++ b.extract ib (ib + k)) ia (ib + k) :=
  ⟨by rw [Array.size_append, Array.size_extract, h.size]; omega, fun q hq => (Array.mem_append.mp hq).elim (h.mem q) (fun z => .inr (mem_ext z)), h.ha, hk⟩
theorem LoI.done {a b out : Array Keyed} {ia ib : Nat} (h : LoI a b out ia ib) (hl : (∀ i, i < b.size → K b i < K a (a.size - 1)) → ia < a.size ∧ ib = b.size) : Good a b (out ++ a.extract ia a.size ++ b.extract ib b.size) :=
  good_done h.size h.mem h.ha h.hb hl
theorem LoI.lastA {a b out : Array Keyed} {ia ib : Nat} (h : LoI a b out ia ib) (e : ia + 1 = a.size) : Good a b (out ++ b.extract ib b.size ++ a.extract ia a.size) :=
  good_lastA h.size h.mem e h.hb
section
variable {prog : Program} {w : World} {A : Around} {E : Value → Shared → Prop} {s : Shared}
/-- all keys are numbers -/
def AI (xs : Array Keyed) : Prop := ∀ i, i < xs.size → ∃ t q, xs[i]? = some (.int (K xs i) t, q)
theorem wpS_rule {σ : Type} {M : Model} {x : String} {Q : Unit → σ → Prop} {st : σ} (h : Q () st) : wpS M A E s (liftM (rule x) : StateT σ Sem Unit) Q st := wpS_lift (wpAny_rule ⟨rfl, h⟩)
theorem wpS_ite {σ α : Type} {M : Model} {c : Prop} [Decidable c] {t e : StateT σ Sem α} {Q : α → σ → Prop} {st : σ} (h1 : c → wpS M A E s t Q st) (h2 : ¬c → wpS M A E s e Q st) : wpS M A E s (if c then t else e) Q st := by
  by_cases z : c
  · rw [if_pos z]; exact h1 z
  · rw [if_neg z]; exact h2 z
theorem wpS_mergeLo {st : SortSt} {a b : Array Keyed} {Q : Array Keyed → SortSt → Prop} (hk : kindOf st = oneType') (ha : AI a) (hb : AI b) (h1 : 1 ≤ a.size) (h2 : 1 ≤ b.size)
    (h : ∀ m g, Good a b m → Q m (setG st g)) : wpS (model prog w) A E s (mergeLo' a b) Q st := by
  unfold mergeLo'
  refine wpS_bind (wpS_rule ?_)
  obtain ⟨t0, q0, e0⟩ := hb 0 (by omega)
  refine wpS_bind (wpS_elem e0 ?_)
  dsimp only
  have L0 : LoI a b #[(Value.int (K b 0) t0, q0)] 0 1 := ⟨rfl, fun p hp => .inr (by
    rw [List.mem_toArray, List.mem_singleton] at hp
    exact hp ▸ mem_of_get e0), Nat.zero_le _, h2⟩
  have hst : st = setG st (gallopOf st) := rfl
  by_cases c1 : 1 = b.size
  · rw [if_pos (by simpa using c1), hst]
    exact wpS_pure (h _ _ (L0.done fun _ => ⟨by omega, c1⟩))
  rw [if_neg (by simpa using c1)]
  by_cases c2 : 0 + 1 = a.size
  · rw [if_pos (by simpa using c2), hst]
    exact wpS_pure (h _ _ (L0.lastA c2))
  rw [if_neg (by simpa using c2)]
  refine wpS_bind (wpS_get ?_)
  refine wpS_bind (wpS_mono (wpS_forRange (I := fun x c st' => ∃ out ia ib mg g, c = (none, out, ia, ib, mg) ∧ st' = setG st g ∧ LoI a b out ia ib ∧ ia + 1 < a.size ∧ ib < b.size ∧ x + 1 ≤ ia + ib)
    (Q := fun c st' => ∃ m g, c.1 = some m ∧ st' = setG st g ∧ Good a b m) ?step ?fin ⟨_, 0, 1, _, gallopOf st, rfl, rfl, L0, by omega, by omega, by omega⟩) ?post)
  case post =>
    rintro ⟨r, c⟩ st' ⟨m, g, hr, rfl, hG⟩
    dsimp only at hr
    subst hr
    exact wpS_pure (h m g hG)
  case fin =>
    rintro c st' ⟨out, ia, ib, mg, g, rfl, rfl, hL, a1, a2, a3⟩
    omega
  case step =>
    rintro x c st' _ hx ⟨out, ia, ib, mg, g, rfl, rfl, hL, a1, a2, a3⟩
    dsimp only
    refine wpS_bind (wpS_mono (wpS_forRange (I := fun _ c st' => ∃ out ia ib ac bc, c = (none, out, ia, ib, ac, bc) ∧ st' = setG st g ∧ LoI a b out ia ib ∧ ia + 1 < a.size ∧ ib < b.size ∧ x + 1 ≤ ia + ib)
      (Q := fun c st' => st' = setG st g ∧ ((∃ m, c.1 = some m ∧ Good a b m) ∨ ∃ out ia ib ac bc, c = (none, out, ia, ib, ac, bc) ∧ LoI a b out ia ib ∧ ia + 1 < a.size ∧ ib < b.size ∧ x + 1 ≤ ia + ib)) ?step1 ?fin1 ⟨out, ia, ib, 0, 0, rfl, rfl, hL, a1, a2, a3⟩) ?post1)
    case fin1 =>
      rintro c st' ⟨out, ia, ib, ac, bc, rfl, rfl, r⟩
      exact ⟨rfl, .inr ⟨out, ia, ib, ac, bc, rfl, r⟩⟩
    case step1 =>
      rintro y c st' _ hy ⟨out, ia, ib, ac, bc, rfl, rfl, hL, a1, a2, a3⟩
      dsimp only
      obtain ⟨tb, qb, eb⟩ := hb ib a2
      obtain ⟨ta, qa, ea⟩ := ha ia (by omega)
      refine wpS_bind (wpS_elem eb (wpS_bind (wpS_elem ea (wpS_bind (wpS_lt hk ?_)))))
      dsimp only
      by_cases z : K b ib < K a ia
      · rw [if_pos (by simpa using z)]
        refine wpS_bind (wpS_elem eb ?_)
        have hL' := hL.pushB a2 eb
        by_cases c3 : ib + 1 = b.size
        · rw [if_pos (by simpa using c3)]
          exact wpS_pure ⟨rfl, .inl ⟨_, rfl, hL'.done fun _ => ⟨by omega, c3⟩⟩⟩
        · rw [if_neg (by simpa using c3)]
          split
          · exact wpS_pure ⟨rfl, .inr ⟨_, _, _, _, _, rfl, hL', a1, by omega, by omega⟩⟩
          · exact wpS_pure ⟨_, _, _, _, _, rfl, rfl, hL', a1, by omega, by omega⟩
      · rw [if_neg (by simpa using z)]
        refine wpS_bind (wpS_elem ea ?_)
        have hL' := hL.pushA (by omega) ea
        by_cases c3 : ia + 1 + 1 = a.size
        · rw [if_pos (by simpa using c3)]
          exact wpS_pure ⟨rfl, .inl ⟨_, rfl, hL'.lastA c3⟩⟩
        · rw [if_neg (by simpa using c3)]
          split
          · exact wpS_pure ⟨rfl, .inr ⟨_, _, _, _, _, rfl, hL', by omega, a2, by omega⟩⟩
          · exact wpS_pure ⟨_, _, _, _, _, rfl, rfl, hL', by omega, a2, by omega⟩
    case post1 =>
      rintro ⟨r, c⟩ st' ⟨rfl, ⟨m, hr, hG⟩ | ⟨out, ia, ib, ac, bc, hc, hL, a1, a2, a3⟩⟩
      · dsimp only at hr
        subst hr
        exact wpS_pure ⟨m, g, rfl, rfl, hG⟩
      obtain ⟨rfl, rfl⟩ := Prod.mk.inj hc
      dsimp only
      refine wpS_bind (wpS_rule ?_)
      refine wpS_bind (wpS_mono (wpS_forRange (I := fun i c st' => ∃ out ia ib mg ac bc g, c = (none, out, ia, ib, mg, ac, bc) ∧ st' = setG st g ∧ LoI a b out ia ib ∧ ia + 1 < a.size ∧ ib < b.size ∧ x + 1 + min i 1 ≤ ia + ib)
        (Q := fun c st' => ∃ g, st' = setG st g ∧ ((∃ m, c.1 = some m ∧ Good a b m) ∨ ∃ out ia ib mg ac bc, c = (none, out, ia, ib, mg, ac, bc) ∧ LoI a b out ia ib ∧ ia + 1 < a.size ∧ ib < b.size ∧ x + 2 ≤ ia + ib)) ?step2 ?fin2 ⟨out, ia, ib, _, ac, bc, g, rfl, rfl, hL, a1, a2, by omega⟩) ?post2)
      case fin2 =>
        rintro c st' ⟨out, ia, ib, mg, ac, bc, g, rfl, rfl, hL, a1, a2, a3⟩
        exact ⟨g, rfl, .inr ⟨out, ia, ib, mg, ac, bc, rfl, hL, a1, a2, by omega⟩⟩
      case post2 =>
        rintro ⟨r, c⟩ st' ⟨g, rfl, ⟨m, hr, hG⟩ | ⟨out, ia, ib, mg, ac, bc, hc, hL, a1, a2, a3⟩⟩
        · dsimp only at hr
          subst hr
          exact wpS_pure ⟨m, g, rfl, rfl, hG⟩
        obtain ⟨rfl, rfl⟩ := Prod.mk.inj hc
        dsimp only
        refine wpS_bind (wpS_modify (wpS_pure ?_))
        exact ⟨out, ia, ib, _, _, rfl, rfl, hL, a1, a2, by omega⟩
      case step2 =>
        rintro y c st' _ hy ⟨out, ia, ib, mg, ac, bc, g, rfl, rfl, hL, a1, a2, a3⟩
        dsimp only
        obtain ⟨tb, qb, eb⟩ := hb ib a2
        refine wpS_ite (fun _ => ?_) (fun _ => ?_)
        all_goals (
          refine wpS_bind (wpS_modify ?_)
          refine wpS_bind (wpS_elem eb ?_)
          refine wpS_bind (wpS_gallop (by exact hk) (fun i q1 q2 => ha i (by omega)) (by omega) (by omega) fun k k1 k2 k3 => ?_)
          dsimp only
          refine wpS_ite (fun hk0 => ?_) (fun hk0 => ?_)
          case' refine_1 =>
            have hL' := hL.extA (k := k) (by omega)
            refine wpS_ite (fun z => wpS_pure ⟨_, rfl, .inl ⟨_, rfl, hL'.lastA (by simpa using z)⟩⟩) (fun z1 => ?_)
            refine wpS_ite (fun z => wpS_pure ⟨_, rfl, .inl ⟨_, rfl, hL'.done fun q => (by
              exfalso
              have e1 := q ib a2
              have e2 := k2 hk0
              have e3 : ia + k = a.size := by simpa using z
              rw [show ia + (k - 1) = a.size - 1 by omega] at e2
              exact absurd (show K a (a.size - 1) ≤ K b ib from e2) (by omega))⟩⟩) (fun z2 => ?_)
            have a1' : ia + k + 1 < a.size := by
              have : ¬(ia + k + 1 = a.size) := by simpa using z1
              have : ¬(ia + k = a.size) := by simpa using z2
              omega
            have a3' : x + 1 + min y 1 ≤ ia + k + ib := by omega
          case' refine_2 =>
            have hL' := hL
            have a1' := a1
            have a3' := a3
          all_goals (
            obtain ⟨ta, qa, ea⟩ := ha _ (Nat.lt_of_succ_lt a1')
            refine wpS_bind (wpS_elem eb ?_)
            have hL2 := hL'.pushB a2 eb
            refine wpS_ite (fun z => wpS_pure ⟨_, rfl, .inl ⟨_, rfl, hL2.done fun _ => ⟨Nat.lt_of_succ_lt a1', by simpa using z⟩⟩⟩) (fun z3 => ?_)
            have z3' : ¬(ib + 1 = b.size) := by simpa using z3
            refine wpS_bind (wpS_elem ea ?_)
            refine wpS_bind (wpS_gallop (by exact hk) (fun i q1 q2 => hb i (by omega)) (by omega) (by omega) fun k' k1' k2' k3' => ?_)
            dsimp only
            refine wpS_ite (fun hk0' => ?_) (fun hk0' => ?_)
            case' refine_1 =>
              have hL3 := hL2.extB (k := k') (by omega)
              refine wpS_ite (fun z => wpS_pure ⟨_, rfl, .inl ⟨_, rfl, hL3.done fun _ => ⟨Nat.lt_of_succ_lt a1', by simpa using z⟩⟩⟩) (fun z4 => ?_)
              have a2' : ib + 1 + k' < b.size := by
                have : ¬(ib + 1 + k' = b.size) := by simpa using z4
                omega
              have a4' : ib + 1 ≤ ib + 1 + k' := by omega
            case' refine_2 =>
              have hL3 := hL2
              have a2' : ib + 1 < b.size := by omega
              have a4' : ib + 1 ≤ ib + 1 := Nat.le_refl _
            all_goals (
              refine wpS_bind (wpS_elem ea ?_)
              have hL4 := hL3.pushA (Nat.lt_of_succ_lt a1') ea
              refine wpS_ite (fun z => wpS_pure ⟨_, rfl, .inl ⟨_, rfl, hL4.lastA (by simpa using z)⟩⟩) (fun z5 => ?_)
              have z5' := mt (fun e => beq_iff_eq.mpr e) z5
              refine wpS_ite (fun _ => wpS_pure ⟨_, rfl, .inr ⟨_, _, _, _, _, _, rfl, hL4, by omega, a2', by omega⟩⟩) (fun _ => wpS_pure ⟨_, _, _, _, _, _, _, rfl, rfl, hL4, by omega, a2', by omega⟩))))
end
end Mine
end

/- text S6 -/
section
open PySem PyProof.Rows
set_option maxRecDepth 100000
namespace Mine
structure HiI (a b out : Array Keyed) (na nb : Nat) : Prop where
  size : out.size + na + nb = a.size + b.size
  mem : ∀ p ∈ out, p ∈ a ∨ p ∈ b
  ha : na ≤ a.size
  hb : nb ≤ b.size
  pos : 0 < out.size
  first : out[0]? = a[a.size - 1]?
theorem last_rev {out xs : Array Keyed} (h : 0 < out.size) : (xs ++ out.reverse)[(xs ++ out.reverse).size - 1]? = out[0]? := by
  rw [last_app (by rw [Array.size_reverse]; exact h), Array.getElem?_reverse (by rw [Array.size_reverse]; omega), Array.size_reverse]
  congr 1; omega
theorem ext0_size {a : Array Keyed} {i : Nat} (h : i ≤ a.size) : (a.extract 0 i).size = i := by rw [Array.size_extract]; omega
theorem HiI.done {a b out : Array Keyed} {na nb : Nat} (h : HiI a b out na nb) : Good a b (a.extract 0 na ++ b.extract 0 nb ++ out.reverse) := by
  refine ⟨by have := h.size; simp only [Array.size_append, Array.size_reverse, ext0_size h.ha, ext0_size h.hb]; omega, fun p hp => ?_, fun _ => ?_⟩
  · rcases Array.mem_append.mp hp with z | z
    · rcases Array.mem_append.mp z with z | z
      · exact .inl (mem_ext z)
      · exact .inr (mem_ext z)
    · exact h.mem p (Array.mem_reverse.mp z)
  · rw [last_rev h.pos, h.first]
theorem HiI.firstB {a b out : Array Keyed} {na nb : Nat} (h : HiI a b out na nb) : Good a b (b.extract 0 nb ++ a.extract 0 na ++ out.reverse) := by
  refine ⟨by have := h.size; simp only [Array.size_append, Array.size_reverse, ext0_size h.ha, ext0_size h.hb]; omega, fun p hp => ?_, fun _ => ?_⟩
  · rcases Array.mem_append.mp hp with z | z
    · rcases Array.mem_append.mp z with z | z
      · exact .inr (mem_ext z)
      · exact .inl (mem_ext z)
    · exact h.mem p (Array.mem_reverse.mp z)
  · rw [last_rev h.pos, h.first]
theorem HiI.pushB {a b out : Array Keyed} {na nb : Nat} {p : Keyed} (h : HiI a b out na nb) (hb : 0 < nb) (e : b[nb - 1]? = some p) : HiI a b (out.push p) na (nb - 1) :=
  ⟨by have := h.size; rw [Array.size_push]; omega, fun q hq => (Array.mem_push.mp hq).elim (h.mem q) (fun z => .inr (z ▸ mem_of_get e)), h.ha, by have := h.hb; omega, by rw [Array.size_push]; omega, by rw [Array.getElem?_push, if_neg (Nat.ne_of_lt h.pos)]; exact h.first⟩
theorem HiI.pushA {a b out : Array Keyed} {na nb : Nat} {p : Keyed} (h : HiI a b out na nb) (ha : 0 < na) (e : a[na - 1]? = some p) : HiI a b (out.push p) (na - 1) nb :=
  ⟨by have := h.size; rw [Array.size_push]; omega, fun q hq => (Array.mem_push.mp hq).elim (h.mem q) (fun z => .inl (z ▸ mem_of_get e)), by have := h.ha; omega, h.hb, by rw [Array.size_push]; omega, by rw [Array.getElem?_push, if_neg (Nat.ne_of_lt h.pos)]; exact h.first⟩
theorem HiI.extA {a b out : Array Keyed} {na nb k : Nat} (h : HiI a b out na nb) (hk : k ≤ na) : HiI a b (out ++ (a.extract k na).reverse) k nb :=
  ⟨by have := h.size; have := h.ha; rw [Array.size_append, Array.size_reverse, Array.size_extract]; omega, fun q hq => (Array.mem_append.mp hq).elim (h.mem q) (fun z => .inl (mem_ext (Array.mem_reverse.mp z))), by have := h.ha; omega, h.hb,
    by have := h.pos; rw [Array.size_append]; omega, by rw [Array.getElem?_append, if_pos h.pos]; exact h.first⟩
theorem HiI.extB {a b out : Array Keyed} {na nb k : Nat} (h : HiI a b out na nb) (hk : k ≤ nb) : HiI a b (out ++ (b.extract k nb).reverse) na k :=
  ⟨by have := h.size; have := h.hb; rw [Array.size_append, Array.size_reverse, Array.size_extract]; omega, fun q hq => (Array.mem_append.mp hq).elim (h.mem q) (fun z => .inr (mem_ext (Array.mem_reverse.mp z))), h.ha, by have := h.hb; omega,
    by have := h.pos; rw [Array.size_append]; omega, by rw [Array.getElem?_append, if_pos h.pos]; exact h.first⟩
section
variable {prog : Program} {w : World} {A : Around} {E : Value → Shared → Prop} {s : Shared}
theorem wpS_mergeHi {st : SortSt} {a b : Array Keyed} {Q : Array Keyed → SortSt → Prop} (hk : kindOf st = oneType') (ha : AI a) (hb : AI b) (h1 : 1 ≤ a.size) (h2 : 1 ≤ b.size)
    (h : ∀ m g, Good a b m → Q m (setG st g)) : wpS (model prog w) A E s (mergeHi' a b) Q st := by
  unfold mergeHi'
  refine wpS_bind (wpS_rule ?_)
  obtain ⟨t0, q0, e0⟩ := ha (a.size - 1) (by omega)
  refine wpS_bind (wpS_elem e0 ?_)
  dsimp only
  have L0 : HiI a b #[(Value.int (K a (a.size - 1)) t0, q0)] (a.size - 1) b.size := ⟨by simp only [List.size_toArray, List.length_cons, List.length_nil]; omega, fun p hp => .inl (by
    rw [List.mem_toArray, List.mem_singleton] at hp
    exact hp ▸ mem_of_get e0), Nat.sub_le _ _, Nat.le_refl _, Nat.one_pos, e0.symm⟩
  have hst : st = setG st (gallopOf st) := rfl
  refine wpS_ite (fun _ => ?_) (fun c1 => ?_)
  · rw [hst]; exact wpS_pure (h _ _ L0.done)
  refine wpS_ite (fun _ => ?_) (fun c2 => ?_)
  · rw [hst]; exact wpS_pure (h _ _ L0.firstB)
  have c1' : ¬(a.size - 1 = 0) := mt (fun e => beq_iff_eq.mpr e) c1
  have c2' : ¬(b.size = 1) := mt (fun e => beq_iff_eq.mpr e) c2
  refine wpS_bind (wpS_get ?_)
  refine wpS_bind (wpS_mono (wpS_forRange (I := fun x c st' => ∃ out na nb mg g, c = (none, na, nb, out, mg) ∧ st' = setG st g ∧ HiI a b out na nb ∧ 0 < na ∧ 1 < nb ∧ x + 1 + na + nb ≤ a.size + b.size)
    (Q := fun c st' => ∃ m g, c.1 = some m ∧ st' = setG st g ∧ Good a b m) ?step ?fin ⟨_, _, _, _, gallopOf st, rfl, rfl, L0, by omega, by omega, by omega⟩) ?post)
  case post =>
    rintro ⟨r, c⟩ st' ⟨m, g, hr, rfl, hG⟩
    dsimp only at hr
    subst hr
    exact wpS_pure (h m g hG)
  case fin =>
    rintro c st' ⟨out, na, nb, mg, g, rfl, rfl, hL, a1, a2, a3⟩
    omega
  case step =>
    rintro x c st' _ hx ⟨out, na, nb, mg, g, rfl, rfl, hL, a1, a2, a3⟩
    dsimp only
    have hna := hL.ha
    have hnb := hL.hb
    refine wpS_bind (wpS_mono (wpS_forRange (I := fun _ c st' => ∃ out na nb ac bc, c = (none, na, nb, out, ac, bc) ∧ st' = setG st g ∧ HiI a b out na nb ∧ 0 < na ∧ 1 < nb ∧ x + 1 + na + nb ≤ a.size + b.size)
      (Q := fun c st' => st' = setG st g ∧ ((∃ m, c.1 = some m ∧ Good a b m) ∨ ∃ out na nb ac bc, c = (none, na, nb, out, ac, bc) ∧ HiI a b out na nb ∧ 0 < na ∧ 1 < nb ∧ x + 1 + na + nb ≤ a.size + b.size)) ?step1 ?fin1 ⟨out, na, nb, 0, 0, rfl, rfl, hL, a1, a2, a3⟩) ?post1)
    case fin1 =>
      rintro c st' ⟨out, na, nb, ac, bc, rfl, rfl, r⟩
      exact ⟨rfl, .inr ⟨out, na, nb, ac, bc, rfl, r⟩⟩
    case step1 =>
      rintro y c st' _ hy ⟨out, na, nb, ac, bc, rfl, rfl, hL, a1, a2, a3⟩
      dsimp only
      have hna := hL.ha
      have hnb := hL.hb
      obtain ⟨tb, qb, eb⟩ := hb (nb - 1) (by omega)
      obtain ⟨ta, qa, ea⟩ := ha (na - 1) (by omega)
      refine wpS_bind (wpS_elem eb (wpS_bind (wpS_elem ea (wpS_bind (wpS_lt hk ?_)))))
      dsimp only
      refine wpS_ite (fun _ => ?_) (fun _ => ?_)
      · refine wpS_bind (wpS_elem ea ?_)
        have hL' := hL.pushA a1 ea
        refine wpS_ite (fun _ => wpS_pure ⟨rfl, .inl ⟨_, rfl, hL'.done⟩⟩) (fun z => ?_)
        have z' : ¬(na - 1 = 0) := mt (fun e => beq_iff_eq.mpr e) z
        exact wpS_ite (fun _ => wpS_pure ⟨rfl, .inr ⟨_, _, _, _, _, rfl, hL', by omega, a2, by omega⟩⟩) (fun _ => wpS_pure ⟨_, _, _, _, _, rfl, rfl, hL', by omega, a2, by omega⟩)
      · refine wpS_bind (wpS_elem eb ?_)
        have hL' := hL.pushB (by omega) eb
        refine wpS_ite (fun _ => wpS_pure ⟨rfl, .inl ⟨_, rfl, hL'.firstB⟩⟩) (fun z => ?_)
        have z' : ¬(nb - 1 = 1) := mt (fun e => beq_iff_eq.mpr e) z
        exact wpS_ite (fun _ => wpS_pure ⟨rfl, .inr ⟨_, _, _, _, _, rfl, hL', a1, by omega, by omega⟩⟩) (fun _ => wpS_pure ⟨_, _, _, _, _, rfl, rfl, hL', a1, by omega, by omega⟩)
    case post1 =>
      rintro ⟨r, c⟩ st' ⟨rfl, ⟨m, hr, hG⟩ | ⟨out, na, nb, ac, bc, hc, hL, a1, a2, a3⟩⟩
      · dsimp only at hr
        subst hr
        exact wpS_pure ⟨m, g, rfl, rfl, hG⟩
      obtain ⟨rfl, rfl⟩ := Prod.mk.inj hc
      dsimp only
      refine wpS_bind (wpS_rule ?_)
      refine wpS_bind (wpS_mono (wpS_forRange (I := fun i c st' => ∃ out na nb mg ac bc g, c = (none, na, nb, out, mg, ac, bc) ∧ st' = setG st g ∧ HiI a b out na nb ∧ 0 < na ∧ 1 < nb ∧ x + 1 + min i 1 + na + nb ≤ a.size + b.size)
        (Q := fun c st' => ∃ g, st' = setG st g ∧ ((∃ m, c.1 = some m ∧ Good a b m) ∨ ∃ out na nb mg ac bc, c = (none, na, nb, out, mg, ac, bc) ∧ HiI a b out na nb ∧ 0 < na ∧ 1 < nb ∧ x + 2 + na + nb ≤ a.size + b.size)) ?step2 ?fin2 ⟨out, na, nb, _, ac, bc, g, rfl, rfl, hL, a1, a2, by omega⟩) ?post2)
      case fin2 =>
        rintro c st' ⟨out, na, nb, mg, ac, bc, g, rfl, rfl, hL, a1, a2, a3⟩
        exact ⟨g, rfl, .inr ⟨out, na, nb, mg, ac, bc, rfl, hL, a1, a2, by omega⟩⟩
      case post2 =>
        rintro ⟨r, c⟩ st' ⟨g, rfl, ⟨m, hr, hG⟩ | ⟨out, na, nb, mg, ac, bc, hc, hL, a1, a2, a3⟩⟩
        · dsimp only at hr
          subst hr
          exact wpS_pure ⟨m, g, rfl, rfl, hG⟩
        obtain ⟨rfl, rfl⟩ := Prod.mk.inj hc
        dsimp only
        refine wpS_bind (wpS_modify (wpS_pure ?_))
        exact ⟨out, na, nb, _, _, rfl, rfl, hL, a1, a2, by omega⟩
      case step2 =>
        rintro y c st' _ hy ⟨out, na, nb, mg, ac, bc, g, rfl, rfl, hL, a1, a2, a3⟩
        dsimp only
        have hna := hL.ha
        have hnb := hL.hb
        obtain ⟨tb, qb, eb⟩ := hb (nb - 1) (by omega)
        refine wpS_ite (fun _ => ?_) (fun _ => ?_)
        all_goals (
          refine wpS_bind (wpS_modify ?_)
          refine wpS_bind (wpS_elem eb ?_)
          refine wpS_bind (wpS_gallop (by exact hk) (fun i q1 q2 => ha i (by omega)) (by omega) (by omega) fun k k1 k2 k3 => ?_)
          dsimp only
          refine wpS_ite (fun hk0 => ?_) (fun hk0 => ?_)
          case' refine_1 =>
            have hL' := hL.extA (k := k) k1
            refine wpS_ite (fun _ => wpS_pure ⟨_, rfl, .inl ⟨_, rfl, hL'.done⟩⟩) (fun z1 => ?_)
            have a1' : 0 < k := Nat.pos_of_ne_zero (mt (fun e => beq_iff_eq.mpr e) z1)
            have a3' : x + 1 + min y 1 + k + nb ≤ a.size + b.size := by omega
            have a4' : k ≤ a.size := by omega
          case' refine_2 =>
            have hL' := hL
            have a1' := a1
            have a3' := a3
            have a4' := hna
          all_goals (
            obtain ⟨ta, qa, ea⟩ := ha _ (Nat.lt_of_lt_of_le (Nat.sub_lt a1' Nat.one_pos) a4')
            refine wpS_bind (wpS_elem eb ?_)
            have hL2 := hL'.pushB (by omega) eb
            refine wpS_ite (fun _ => wpS_pure ⟨_, rfl, .inl ⟨_, rfl, hL2.firstB⟩⟩) (fun z3 => ?_)
            have z3' : ¬(nb - 1 = 1) := mt (fun e => beq_iff_eq.mpr e) z3
            refine wpS_bind (wpS_elem ea ?_)
            refine wpS_bind (wpS_gallop (by exact hk) (fun i q1 q2 => hb i (by omega)) (by omega) (by omega) fun k' k1' k2' k3' => ?_)
            dsimp only
            refine wpS_ite (fun hk0' => ?_) (fun hk0' => ?_)
            case' refine_1 =>
              have hL3 := hL2.extB (k := k') k1'
              refine wpS_ite (fun _ => wpS_pure ⟨_, rfl, .inl ⟨_, rfl, hL3.firstB⟩⟩) (fun z4 => ?_)
              refine wpS_ite (fun _ => wpS_pure ⟨_, rfl, .inl ⟨_, rfl, hL3.done⟩⟩) (fun z5 => ?_)
              have z4' : ¬(k' = 1) := mt (fun e => beq_iff_eq.mpr e) z4
              have z5' : ¬(k' = 0) := mt (fun e => beq_iff_eq.mpr e) z5
              have a2' : 1 < k' := by omega
              have a5' : k' ≤ nb - 1 := k1'
            case' refine_2 =>
              have hL3 := hL2
              have a2' : 1 < nb - 1 := by omega
              have a5' : nb - 1 ≤ nb - 1 := Nat.le_refl _
            all_goals (
              refine wpS_bind (wpS_elem ea ?_)
              have hL4 := hL3.pushA a1' ea
              refine wpS_ite (fun _ => wpS_pure ⟨_, rfl, .inl ⟨_, rfl, hL4.done⟩⟩) (fun z5 => ?_)
              have z5' := mt (fun e => beq_iff_eq.mpr e) z5
              refine wpS_ite (fun _ => wpS_pure ⟨_, rfl, .inr ⟨_, _, _, _, _, _, rfl, hL4, by omega, a2', by omega⟩⟩) (fun _ => wpS_pure ⟨_, _, _, _, _, _, _, rfl, rfl, hL4, by omega, a2', by omega⟩))))
end
end Mine
end

/- text S7 -/
section
open PySem PyProof.Rows
set_option maxRecDepth 100000
namespace Mine
theorem writes_get {α : Type} (sa : Nat) : ∀ (l : List α) (j : Nat) (xs : Array α) (k : Nat), sa + j + l.length ≤ xs.size →
    ((l.zipIdx j).foldl (fun a (q : α × Nat) => a.setIfInBounds (sa + q.2) q.1) xs)[k]? = if sa + j ≤ k ∧ k < sa + j + l.length then l[k - (sa + j)]? else xs[k]? := by
  intro l
  induction l with
  | nil => intro j xs k _; rw [if_neg (by simp only [List.length_nil]; omega)]; rfl
  | cons x l ih =>
    intro j xs k hs
    simp only [List.length_cons] at hs ⊢
    rw [List.zipIdx_cons, List.foldl_cons, ih (j + 1) _ k (by rw [Array.size_setIfInBounds]; omega)]
    dsimp only
    rw [Array.getElem?_setIfInBounds]
    by_cases h1 : sa + j = k
    · rw [if_neg (by omega), if_pos h1, if_pos (by omega), if_pos (by omega), show k - (sa + j) = 0 by omega]; rfl
    · by_cases h2 : sa + (j + 1) ≤ k ∧ k < sa + (j + 1) + l.length
      · rw [if_pos h2, if_pos (by omega), show k - (sa + j) = (k - (sa + (j + 1))) + 1 by omega]; rfl
      · rw [if_neg h2, if_neg h1, if_neg (by omega)]
theorem writes_size {α : Type} (sa : Nat) : ∀ (l : List α) (j : Nat) (xs : Array α), ((l.zipIdx j).foldl (fun a (q : α × Nat) => a.setIfInBounds (sa + q.2) q.1) xs).size = xs.size := by
  intro l
  induction l with
  | nil => intro j xs; rfl
  | cons x l ih => intro j xs; rw [List.zipIdx_cons, List.foldl_cons, ih, Array.size_setIfInBounds]
theorem Seg.join {a₀ xs xs' : Array Keyed} {sa sb hi : Nat} (hA : Seg a₀ xs sa sb) (hB : Seg a₀ xs sb hi) (hm : ∀ k, sa ≤ k → k < hi → ∃ k', sa ≤ k' ∧ k' < hi ∧ xs'[k]? = xs[k']?)
    (hl : (xs'[hi - 1]? = xs[hi - 1]? ∧ K xs (sb - 1) ≤ K xs (hi - 1)) ∨ (xs'[hi - 1]? = xs[sb - 1]? ∧ K xs (hi - 1) < K xs (sb - 1))) : Seg a₀ xs' sa hi := by
  have lA := hA.lt
  have lB := hB.lt
  obtain ⟨ja, ⟨a1, a2, a3⟩, ta⟩ := hA.top
  obtain ⟨jb, ⟨b1, b2, b3⟩, tb⟩ := hB.top
  refine ⟨fun k h1 h2 => ?_, ?_⟩
  · obtain ⟨k', q1, q2, q3⟩ := hm k h1 h2
    by_cases z : k' < sb
    · obtain ⟨i, c1, c2, c3⟩ := hA.mem k' q1 z
      exact ⟨i, c1, by omega, q3.trans c3⟩
    · obtain ⟨i, c1, c2, c3⟩ := hB.mem k' (by omega) q2
      exact ⟨i, by omega, c2, q3.trans c3⟩
  · rcases hl with ⟨e, hk⟩ | ⟨e, hk⟩
    · refine ⟨jb, ⟨by omega, b2, fun i h1 h2 => ?_⟩, e.trans tb⟩
      rw [K_congr ta, K_congr tb] at hk
      by_cases z : i < sb
      · rcases a3 i h1 z with y | y
        · exact .inl (by omega)
        · rcases Int.lt_or_eq_of_le hk with v | v
          · exact .inl (by omega)
          · exact .inr ⟨by omega, by omega⟩
      · exact b3 i (by omega) h2
    · refine ⟨ja, ⟨a1, by omega, fun i h1 h2 => ?_⟩, e.trans ta⟩
      rw [K_congr ta, K_congr tb] at hk
      by_cases z : i < sb
      · exact a3 i h1 z
      · rcases b3 i (by omega) h2 with y | y <;> exact .inl (by omega)
abbrev setAll (st : SortSt) (xs : Array Keyed) (p : Array (Nat × Nat × Nat)) (g : Nat) : SortSt := SortSt.mk' (kindOf st) xs p g (failedOf st)
section
variable {prog : Program} {w : World} {A : Around} {E : Value → Shared → Prop} {s : Shared} {a₀ : Array Keyed}
theorem wpS_set {σ : Type} {M : Model} {x : σ} {Q : PUnit → σ → Prop} {st : σ} (h : Q ⟨⟩ x) : wpS M A E s (set x : StateT σ Sem PUnit) Q st := by
  unfold wpS; rw [StateT.run_set]; exact wpAny_pure ⟨rfl, h⟩
theorem ext_get {a : Array Keyed} {i j k : Nat} (hj : j ≤ a.size) (hk : i + k < j) : (a.extract i j)[k]? = a[i + k]? := by
  rw [Array.getElem?_extract, if_pos (by omega)]
theorem mem_ext_get {a : Array Keyed} {i j : Nat} {p : Keyed} (hj : j ≤ a.size) (h : p ∈ a.extract i j) : ∃ k, i ≤ k ∧ k < j ∧ a[k]? = some p := by
  obtain ⟨k, hk, rfl⟩ := Array.mem_iff_getElem.mp h
  have hk' := hk
  rw [Array.size_extract] at hk'
  refine ⟨i + k, by omega, by omega, ?_⟩
  rw [Array.getElem_extract]
  exact Array.getElem?_eq_getElem _
theorem wpS_mergeAt {st : SortSt} {i sa na pa sb nb pb : Nat} {Q : Bool → SortSt → Prop} (h0 : IntKeys a₀) (hB : SI a₀ st) (h1 : (pendingOf st)[i]? = some (sa, na, pa)) (h2 : (pendingOf st)[i + 1]? = some (sb, nb, pb)) (hsb : sb = sa + na) (hhi : sb + nb ≤ a₀.size)
    (hSA : Seg a₀ (arrOf st) sa sb) (hSB : Seg a₀ (arrOf st) sb (sb + nb))
    (h : ∀ xs' g, SI a₀ (setAll st xs' (((pendingOf st).setIfInBounds i (sa, na + nb, pa)).eraseIdxIfInBounds (i + 1)) g) → Seg a₀ xs' sa (sb + nb) → (∀ k, k < sa ∨ sb + nb ≤ k → xs'[k]? = (arrOf st)[k]?) →
      Q true (setAll st xs' (((pendingOf st).setIfInBounds i (sa, na + nb, pa)).eraseIdxIfInBounds (i + 1)) g)) : wpS (model prog w) A E s (mergeAt' i) Q st := by
  have lA := hSA.lt
  have lB := hSB.lt
  have hint : ∀ j, j < a₀.size → ∃ t q, (arrOf st)[j]? = some (.int (K (arrOf st) j) t, q) := fun j hj => hB.int h0 hj
  unfold mergeAt'
  refine wpS_bind (wpS_get ?_)
  dsimp only
  rw [h1, h2]
  dsimp only
  refine wpS_bind (wpS_set ?_)
  obtain ⟨tb, qb, eb⟩ := hint sb (by omega)
  refine wpS_bind (wpS_elem eb ?_)
  refine wpS_bind (wpS_gallop (by exact hB.kind) (fun j q1 q2 => hint j (by omega)) (by omega) (by omega) fun k k1 k2 k3 => ?_)
  dsimp only
  -- nothing is written
  have idle : K (arrOf st) (sb - 1) ≤ K (arrOf st) (sb + nb - 1) → Seg a₀ (arrOf st) sa (sb + nb) := fun q => hSA.join hSB (fun k a b => ⟨k, a, b, rfl⟩) (.inl ⟨rfl, q⟩)
  have hBmax := hSB.max sb (Nat.le_refl _) lB
  have hst : ∀ p, setAll st (arrOf st) p (gallopOf st) = SortSt.mk' (kindOf st) (arrOf st) p (gallopOf st) (failedOf st) := fun _ => rfl
  refine wpS_ite (fun z => ?_) (fun z => ?_)
  · have z' : na - k = 0 := by simpa using z
    refine wpS_pure (h (arrOf st) (gallopOf st) ⟨hB.kind, hB.failed, hB.size, hB.all⟩ (idle ?_) fun _ _ => rfl)
    have e2 : K (arrOf st) (sa + (k - 1)) ≤ K (arrOf st) sb := k2 (by omega)
    rw [show sa + (k - 1) = sb - 1 by omega] at e2
    omega
  have z' : ¬(na - k = 0) := mt (fun e => beq_iff_eq.mpr e) z
  have eidx : sa + k + (na - k) - 1 = sb - 1 := by omega
  rw [eidx]
  obtain ⟨ta, qa, ea⟩ := hint (sb - 1) (by omega)
  refine wpS_bind (wpS_elem ea ?_)
  refine wpS_bind (wpS_gallop (by exact hB.kind) (fun j q1 q2 => hint j (by omega)) (by omega) (by omega) fun r r1 r2 r3 => ?_)
  dsimp only
  refine wpS_ite (fun y => ?_) (fun y => ?_)
  · have y' : r = 0 := by simpa using y
    refine wpS_pure (h (arrOf st) (gallopOf st) ⟨hB.kind, hB.failed, hB.size, hB.all⟩ (idle ?_) fun _ _ => rfl)
    have e3 : ¬(K (arrOf st) (sb + r) < K (arrOf st) (sb - 1)) := r3 (by omega)
    rw [y', Nat.add_zero] at e3
    omega
  have y' : ¬(r = 0) := mt (fun e => beq_iff_eq.mpr e) y
  have hsz := hB.size
  have ax : AI ((arrOf st).extract (sa + k) sb) := fun j hj => by
    rw [Array.size_extract] at hj
    have e := ext_get (a := arrOf st) (i := sa + k) (j := sb) (k := j) (by omega) (by omega)
    obtain ⟨t, q, e'⟩ := hint (sa + k + j) (by omega)
    exact ⟨t, q, by rw [e, e', K_congr e]⟩
  have ay : AI ((arrOf st).extract sb (sb + r)) := fun j hj => by
    rw [Array.size_extract] at hj
    have e := ext_get (a := arrOf st) (i := sb) (j := sb + r) (k := j) (by omega) (by omega)
    obtain ⟨t, q, e'⟩ := hint (sb + j) (by omega)
    exact ⟨t, q, by rw [e, e', K_congr e]⟩
  have sx : ((arrOf st).extract (sa + k) sb).size = sb - (sa + k) := by rw [Array.size_extract]; omega
  have sy : ((arrOf st).extract sb (sb + r)).size = r := by rw [Array.size_extract]; omega
  have fin : ∀ m g, Good ((arrOf st).extract (sa + k) sb) ((arrOf st).extract sb (sb + r)) m →
      Q true (setAll st ((m.toList.zipIdx 0).foldl (fun a (q : Keyed × Nat) => a.setIfInBounds (sa + k + q.2) q.1) (arrOf st)) (((pendingOf st).setIfInBounds i (sa, na + nb, pa)).eraseIdxIfInBounds (i + 1)) g) := by
    intro m g hG
    have hms : m.size = sb - (sa + k) + r := by rw [hG.size, sx, sy]
    have hget : ∀ j, ((m.toList.zipIdx 0).foldl (fun a (q : Keyed × Nat) => a.setIfInBounds (sa + k + q.2) q.1) (arrOf st))[j]? = if sa + k ≤ j ∧ j < sb + r then m[j - (sa + k)]? else (arrOf st)[j]? := by
      intro j
      rw [writes_get (sa + k) m.toList 0 (arrOf st) j (by rw [Array.length_toList]; omega), Array.length_toList, Nat.add_zero, show sa + k + m.size = sb + r by omega]
      simp only [Array.getElem?_toList]
    have hfrom : ∀ j, sa + k ≤ j → j < sb + r → ∃ j', sa ≤ j' ∧ j' < sb + nb ∧ m[j - (sa + k)]? = (arrOf st)[j']? := by
      intro j q1 q2
      have hlt : j - (sa + k) < m.size := by omega
      have e : m[j - (sa + k)]? = some m[j - (sa + k)] := Array.getElem?_eq_getElem hlt
      rcases hG.mem _ (Array.getElem_mem hlt) with v | v
      · obtain ⟨j', v1, v2, v3⟩ := mem_ext_get (by omega) v
        exact ⟨j', by omega, by omega, e.trans v3.symm⟩
      · obtain ⟨j', v1, v2, v3⟩ := mem_ext_get (by omega) v
        exact ⟨j', by omega, by omega, e.trans v3.symm⟩
    have hloc : ∀ j, sa ≤ j → j < sb + nb → ∃ j', sa ≤ j' ∧ j' < sb + nb ∧ ((m.toList.zipIdx 0).foldl (fun a (q : Keyed × Nat) => a.setIfInBounds (sa + k + q.2) q.1) (arrOf st))[j]? = (arrOf st)[j']? := by
      intro j q1 q2
      rw [hget]
      split
      · exact hfrom j (by omega) (by omega)
      · exact ⟨j, q1, q2, rfl⟩
    refine h _ g ⟨hB.kind, hB.failed, (writes_size ..).trans hB.size, fun j hj => ?_⟩ ?_ fun j hj => ?_
    · show ∃ i', i' < a₀.size ∧ ((m.toList.zipIdx 0).foldl _ _)[j]? = _
      rw [hget]
      split
      · obtain ⟨j', v1, v2, v3⟩ := hfrom j (by omega) (by omega)
        obtain ⟨i', c1, c2⟩ := hB.all j' (by omega)
        exact ⟨i', c1, v3.trans c2⟩
      · exact hB.all j hj
    · refine hSA.join hSB hloc ?_
      by_cases v : r < nb
      · have e3 : ¬(K (arrOf st) (sb + r) < K (arrOf st) (sb - 1)) := r3 v
        have e4 := hSB.max (sb + r) (by omega) (by omega)
        exact .inl ⟨by rw [hget, if_neg (by omega)], by omega⟩
      · have hr : r = nb := by omega
        have e3 : K (arrOf st) (sb + (r - 1)) < K (arrOf st) (sb - 1) := r2 (by omega)
        rw [show sb + (r - 1) = sb + nb - 1 by omega] at e3
        refine .inr ⟨?_, e3⟩
        rw [hget, if_pos (by omega)]
        have elast : ((arrOf st).extract (sa + k) sb)[((arrOf st).extract (sa + k) sb).size - 1]? = (arrOf st)[sb - 1]? := by
          rw [sx, ext_get (by omega) (by omega)]; congr 1; omega
        rw [show sb + nb - 1 - (sa + k) = m.size - 1 by omega, hG.last ?_, elast]
        intro j hj
        rw [sy] at hj
        rw [K_congr elast, K_congr (ext_get (a := arrOf st) (i := sb) (j := sb + r) (k := j) (by omega) (by omega))]
        have := hSB.max (sb + j) (by omega) (by omega)
        omega
    · rw [hget, if_neg (by omega)]
  have hfn : (failedOf st).isNone = true := by rw [hB.failed]; rfl
  refine wpS_ite (fun _ => ?_) (fun _ => ?_)
  · refine wpS_bind (wpS_mergeLo (by exact hB.kind) ax ay (by rw [sx]; omega) (by rw [sy]; omega) fun m g hG => wpS_bind (wpS_modify (wpS_bind (wpS_get (wpS_pure ?_)))))
    show Q (failedOf st).isNone _
    rw [hfn]
    exact fin m g hG
  · refine wpS_bind (wpS_mergeHi (by exact hB.kind) ax ay (by rw [sx]; omega) (by rw [sy]; omega) fun m g hG => wpS_bind (wpS_modify (wpS_bind (wpS_get (wpS_pure ?_)))))
    show Q (failedOf st).isNone _
    rw [hfn]
    exact fin m g hG
end
end Mine
end

/- text S8 -/
section
open PySem PyProof.Rows
set_option maxRecDepth 100000
namespace Mine
/-- the pending runs lie side by side from 0 to lo -/
structure PI (a₀ xs : Array Keyed) (p : Array (Nat × Nat × Nat)) (lo : Nat) : Prop where
  seg : ∀ (i : Nat) (r : Nat × Nat × Nat), p[i]? = some r → Seg a₀ xs r.1 (r.1 + r.2.1)
  adj : ∀ (i : Nat) (r r' : Nat × Nat × Nat), p[i]? = some r → p[i + 1]? = some r' → r'.1 = r.1 + r.2.1
  sep : ∀ (i j : Nat) (r r' : Nat × Nat × Nat), i < j → p[i]? = some r → p[j]? = some r' → r.1 + r.2.1 ≤ r'.1
  first : ∀ (r : Nat × Nat × Nat), p[0]? = some r → r.1 = 0
  last : ∀ (r : Nat × Nat × Nat), p[p.size - 1]? = some r → r.1 + r.2.1 = lo
  le : ∀ (i : Nat) (r : Nat × Nat × Nat), p[i]? = some r → r.1 + r.2.1 ≤ lo
  empty : p.size = 0 → lo = 0
  cnt : p.size ≤ lo
theorem erase_get {p : Array (Nat × Nat × Nat)} {i : Nat} {x : Nat × Nat × Nat} (h : i + 1 < p.size) (j : Nat) :
    ((p.setIfInBounds i x).eraseIdxIfInBounds (i + 1))[j]? = if j < i then p[j]? else if j = i then some x else p[j + 1]? := by
  have hs : i + 1 < (p.setIfInBounds i x).size := by rw [Array.size_setIfInBounds]; exact h
  rw [Array.eraseIdxIfInBounds_eq, dif_pos hs, Array.getElem?_eraseIdx]
  by_cases h1 : j < i
  · rw [if_pos (by omega), if_pos h1, Array.getElem?_setIfInBounds, if_neg (by omega)]
  · rw [if_neg h1]
    by_cases h2 : j = i
    · rw [if_pos (by omega), if_pos h2, Array.getElem?_setIfInBounds, if_pos h2.symm, if_pos (by omega)]
    · rw [if_neg (by omega), if_neg h2, Array.getElem?_setIfInBounds, if_neg (by omega)]
theorem erase_size {p : Array (Nat × Nat × Nat)} {i : Nat} {x : Nat × Nat × Nat} (h : i + 1 < p.size) : ((p.setIfInBounds i x).eraseIdxIfInBounds (i + 1)).size = p.size - 1 := by
  have hs : i + 1 < (p.setIfInBounds i x).size := by rw [Array.size_setIfInBounds]; exact h
  rw [Array.eraseIdxIfInBounds_eq, dif_pos hs, Array.size_eraseIdx, Array.size_setIfInBounds]
theorem PI.congr {a₀ xs ys : Array Keyed} {p : Array (Nat × Nat × Nat)} {lo : Nat} (h : PI a₀ xs p lo) (e : ∀ k, k < lo → ys[k]? = xs[k]?) : PI a₀ ys p lo :=
  ⟨fun i r hr => (h.seg i r hr).congr fun k _ q => e k (by have := h.le i r hr; omega), h.adj, h.sep, h.first, h.last, h.le, h.empty, h.cnt⟩
theorem PI.merge {a₀ xs ys : Array Keyed} {p : Array (Nat × Nat × Nat)} {lo i sa na pa sb nb pb : Nat} (h : PI a₀ xs p lo) (h1 : p[i]? = some (sa, na, pa)) (h2 : p[i + 1]? = some (sb, nb, pb)) (hs : Seg a₀ ys sa (sb + nb)) (e : ∀ k, k < sa ∨ sb + nb ≤ k → ys[k]? = xs[k]?) :
    PI a₀ ys ((p.setIfInBounds i (sa, na + nb, pa)).eraseIdxIfInBounds (i + 1)) lo := by
  have hi : i + 1 < p.size := (Array.getElem?_eq_some_iff.mp h2).1
  have g := fun j => erase_get (x := (sa, na + nb, pa)) hi j
  have hadj : sb = sa + na := h.adj i _ _ h1 h2
  have lt1 := (h.seg i _ h1).lt
  have lt2 := (h.seg _ _ h2).lt
  dsimp only at lt1 lt2
  refine ⟨fun j r hr => ?_, fun j r r' hr hr' => ?_, fun j j' r r' hjj hr hr' => ?_, fun r hr => ?_, fun r hr => ?_, fun j r hr => ?_, fun q => ?_, ?_⟩
  · rw [g] at hr
    split at hr
    · rename_i hj
      have := h.sep j i _ _ hj hr h1
      exact (h.seg j r hr).congr fun k q1 q2 => e k (.inl (by omega))
    · split at hr
      · obtain rfl := Option.some.inj hr
        dsimp only
        rw [show sa + (na + nb) = sb + nb by omega]
        exact hs
      · have := h.sep (i + 1) (j + 1) _ _ (by omega) h2 hr
        dsimp only at this
        exact (h.seg _ r hr).congr fun k q1 q2 => e k (.inr (by omega))
  · rw [g] at hr hr'
    by_cases c1 : j + 1 < i
    · rw [if_pos (by omega)] at hr
      rw [if_pos c1] at hr'
      exact h.adj j r r' hr hr'
    · by_cases c2 : j + 1 = i
      · rw [if_pos (by omega)] at hr
        rw [if_neg (by omega), if_pos c2] at hr'
        obtain rfl := Option.some.inj hr'
        subst c2
        exact h.adj j r (sa, na, pa) hr h1
      · by_cases c3 : j = i
        · rw [if_neg (by omega), if_pos c3] at hr
          rw [if_neg (by omega), if_neg (by omega)] at hr'
          obtain rfl := Option.some.inj hr
          subst c3
          have := h.adj (j + 1) _ r' h2 hr'
          dsimp only at this ⊢
          omega
        · rw [if_neg (by omega), if_neg c3] at hr
          rw [if_neg (by omega), if_neg (by omega)] at hr'
          exact h.adj (j + 1) r r' hr hr'
  · rw [g] at hr hr'
    by_cases c1 : j' < i
    · rw [if_pos (by omega)] at hr
      rw [if_pos c1] at hr'
      exact h.sep j j' r r' hjj hr hr'
    · by_cases c2 : j' = i
      · rw [if_pos (by omega)] at hr
        rw [if_neg (by omega), if_pos c2] at hr'
        obtain rfl := Option.some.inj hr'
        exact h.sep j i r (sa, na, pa) (by omega) hr h1
      · rw [if_neg (by omega), if_neg c2] at hr'
        by_cases c3 : j < i
        · rw [if_pos c3] at hr
          exact h.sep j (j' + 1) r r' (by omega) hr hr'
        · by_cases c4 : j = i
          · rw [if_neg (by omega), if_pos c4] at hr
            obtain rfl := Option.some.inj hr
            have := h.sep (i + 1) (j' + 1) _ r' (by omega) h2 hr'
            dsimp only at this ⊢
            omega
          · rw [if_neg (by omega), if_neg c4] at hr
            exact h.sep (j + 1) (j' + 1) r r' (by omega) hr hr'
  · rw [g] at hr
    by_cases c1 : 0 < i
    · rw [if_pos c1] at hr
      exact h.first r hr
    · rw [if_neg c1, if_pos (by omega)] at hr
      obtain rfl := Option.some.inj hr
      have : i = 0 := by omega
      subst this
      exact h.first (sa, na, pa) h1
  · rw [erase_size hi, g] at hr
    rw [if_neg (by omega)] at hr
    by_cases c1 : p.size - 1 - 1 = i
    · rw [if_pos c1] at hr
      obtain rfl := Option.some.inj hr
      have := h.last _ (by rw [show p.size - 1 = i + 1 by omega]; exact h2)
      dsimp only at this ⊢
      omega
    · rw [if_neg c1] at hr
      exact h.last r (by rw [show p.size - 1 = p.size - 1 - 1 + 1 by omega]; exact hr)
  · rw [g] at hr
    split at hr
    · exact h.le j r hr
    · split at hr
      · obtain rfl := Option.some.inj hr
        have := h.le _ _ h2
        dsimp only at this ⊢
        omega
      · exact h.le _ r hr
  · rw [erase_size hi] at q; omega
  · rw [erase_size hi]; have := h.cnt; omega
theorem PI.push {a₀ xs : Array Keyed} {p : Array (Nat × Nat × Nat)} {lo n : Nat} (h : PI a₀ xs p lo) (hs : Seg a₀ xs lo (lo + n)) : PI a₀ xs (p.push (lo, n, 0)) (lo + n) := by
  have lt := hs.lt
  have g : ∀ (j : Nat) (r : Nat × Nat × Nat), (p.push (lo, n, 0))[j]? = some r → (p[j]? = some r ∧ j < p.size) ∨ (j = p.size ∧ r = (lo, n, 0)) := by
    intro j r hr
    rw [Array.getElem?_push] at hr
    by_cases c : j = p.size
    · rw [if_pos c] at hr; exact .inr ⟨c, (Option.some.inj hr).symm⟩
    · rw [if_neg c] at hr; exact .inl ⟨hr, (Array.getElem?_eq_some_iff.mp hr).1⟩
  refine ⟨fun j r hr => ?_, fun j r r' hr hr' => ?_, fun j j' r r' hjj hr hr' => ?_, fun r hr => ?_, fun r hr => ?_, fun j r hr => ?_, fun q => ?_, ?_⟩
  · rcases g j r hr with ⟨a, _⟩ | ⟨_, rfl⟩
    · exact h.seg j r a
    · exact hs
  · rcases g j r hr with ⟨a, a'⟩ | ⟨a, _⟩
    · rcases g _ r' hr' with ⟨b, _⟩ | ⟨b, rfl⟩
      · exact h.adj j r r' a b
      · exact (h.last r (by rw [← b]; exact a)).symm
    · rcases g _ r' hr' with ⟨_, b⟩ | ⟨b, _⟩ <;> omega
  · rcases g j r hr with ⟨a, a'⟩ | ⟨a, _⟩
    · rcases g _ r' hr' with ⟨b, _⟩ | ⟨_, rfl⟩
      · exact h.sep j j' r r' hjj a b
      · exact h.le j r a
    · rcases g _ r' hr' with ⟨_, b⟩ | ⟨b, _⟩ <;> omega
  · rcases g 0 r hr with ⟨a, _⟩ | ⟨a, rfl⟩
    · exact h.first r a
    · exact h.empty a.symm
  · rw [Array.size_push, Nat.add_sub_cancel] at hr
    rcases g _ r hr with ⟨_, b⟩ | ⟨_, rfl⟩
    · omega
    · rfl
  · rcases g j r hr with ⟨a, _⟩ | ⟨_, rfl⟩
    · have := h.le j r a; omega
    · exact Nat.le_refl _
  · rw [Array.size_push] at q; omega
  · rw [Array.size_push]; have := h.cnt; omega
theorem PI.power {a₀ xs : Array Keyed} {p : Array (Nat × Nat × Nat)} {lo i pw : Nat} (h : PI a₀ xs p lo) : PI a₀ xs (p.modify i fun x => (x.1, x.2.1, pw)) lo := by
  have g : ∀ (j : Nat) (r : Nat × Nat × Nat), (p.modify i fun x => (x.1, x.2.1, pw))[j]? = some r → ∃ r' : Nat × Nat × Nat, p[j]? = some r' ∧ r'.1 = r.1 ∧ r'.2.1 = r.2.1 := by
    intro j r hr
    rw [Array.getElem?_modify] at hr
    split at hr
    · obtain ⟨r', h1, rfl⟩ := Option.map_eq_some_iff.mp hr
      exact ⟨r', h1, rfl, rfl⟩
    · exact ⟨r, hr, rfl, rfl⟩
  refine ⟨fun j r hr => ?_, fun j r r' hr hr' => ?_, fun j j' r r' hjj hr hr' => ?_, fun r hr => ?_, fun r hr => ?_, fun j r hr => ?_, fun q => ?_, ?_⟩
  · obtain ⟨x, a, b, c⟩ := g j r hr
    rw [← b, ← c]; exact h.seg j x a
  · obtain ⟨x, a, b, c⟩ := g j r hr
    obtain ⟨y, a', b', c'⟩ := g _ r' hr'
    rw [← b, ← c, ← b']; exact h.adj j x y a a'
  · obtain ⟨x, a, b, c⟩ := g j r hr
    obtain ⟨y, a', b', c'⟩ := g _ r' hr'
    rw [← b, ← c, ← b']; exact h.sep j j' x y hjj a a'
  · obtain ⟨x, a, b, c⟩ := g 0 r hr
    rw [← b]; exact h.first x a
  · rw [Array.size_modify] at hr
    obtain ⟨x, a, b, c⟩ := g _ r hr
    rw [← b, ← c]; exact h.last x a
  · obtain ⟨x, a, b, c⟩ := g j r hr
    rw [← b, ← c]; exact h.le j x a
  · rw [Array.size_modify] at q; exact h.empty q
  · rw [Array.size_modify]; exact h.cnt

section
variable {prog : Program} {w : World} {A : Around} {E : Value → Shared → Prop} {s : Shared} {a₀ : Array Keyed}
theorem SI.setAll {st : SortSt} (h : SI a₀ st) (p : Array (Nat × Nat × Nat)) (g : Nat) : SI a₀ (setAll st (arrOf st) p g) := ⟨h.kind, h.failed, h.size, h.all⟩
theorem ite_pred_le {c : Prop} [Decidable c] {k : Nat} : (if c then k - 1 else k) ≤ k := by split <;> omega
theorem wpS_mergeP {st : SortSt} {i lo : Nat} {Q : Bool → SortSt → Prop} (h0 : IntKeys a₀) (hB : SI a₀ st) (hP : PI a₀ (arrOf st) (pendingOf st) lo) (hlo : lo ≤ a₀.size) (hi : i + 1 < (pendingOf st).size)
    (h : ∀ st', SI a₀ st' → PI a₀ (arrOf st') (pendingOf st') lo → (pendingOf st').size = (pendingOf st).size - 1 → (∀ k, lo ≤ k → (arrOf st')[k]? = (arrOf st)[k]?) → Q true st') : wpS (model prog w) A E s (mergeAt' i) Q st := by
  obtain ⟨⟨sa, na, pa⟩, e1⟩ : ∃ r, (pendingOf st)[i]? = some r := ⟨_, Array.getElem?_eq_getElem (Nat.lt_of_succ_lt hi)⟩
  obtain ⟨⟨sb, nb, pb⟩, e2⟩ : ∃ r, (pendingOf st)[i + 1]? = some r := ⟨_, Array.getElem?_eq_getElem hi⟩
  have hadj : sb = sa + na := hP.adj i _ _ e1 e2
  have hle : sb + nb ≤ lo := hP.le _ _ e2
  have hSA : Seg a₀ (arrOf st) sa (sa + na) := hP.seg _ _ e1
  have hSB : Seg a₀ (arrOf st) sb (sb + nb) := hP.seg _ _ e2
  rw [← hadj] at hSA
  refine wpS_mergeAt h0 hB e1 e2 hadj (by omega) hSA hSB fun xs' g a b c => h _ a (hP.merge e1 e2 b c) (erase_size hi) fun k hk => c k (.inr (by omega))
theorem wpS_sortAll {st : SortSt} {Q : Unit → SortSt → Prop} (h0 : IntKeys a₀) (hB : SI a₀ st) (hp : pendingOf st = #[]) (ha : arrOf st = a₀) (h1 : 1 ≤ a₀.size)
    (h : ∀ st', SI a₀ st' → Seg a₀ (arrOf st') 0 a₀.size → Q () st') : wpS (model prog w) A E s sortRuns' Q st := by
  rw [sortRuns'_eq]
  refine wpS_bind (wpS_get ?_)
  dsimp only
  rw [hB.size]
  refine wpS_bind (wpS_mono (wpS_forRange
    (I := fun x c st' => ∃ lo, c = (none, lo) ∧ x ≤ lo ∧ lo ≤ a₀.size ∧ SI a₀ st' ∧ PI a₀ (arrOf st') (pendingOf st') lo ∧ ∀ k, lo ≤ k → (arrOf st')[k]? = a₀[k]?)
    (Q := fun c st' => c = (none, a₀.size) ∧ SI a₀ st' ∧ PI a₀ (arrOf st') (pendingOf st') a₀.size) ?step ?fin ⟨0, rfl, Nat.le_refl _, Nat.zero_le _, hB, ?init, fun k _ => by rw [ha]⟩) ?post)
  case init =>
    rw [hp]
    exact ⟨fun i r hr => by simp at hr, fun i r r' hr => by simp at hr, fun i j r r' _ hr => by simp at hr, fun r hr => by simp at hr, fun r hr => by simp at hr, fun i r hr => by simp at hr, fun _ => rfl, Nat.le_refl _⟩
  case fin =>
    rintro c st' ⟨lo, rfl, h2, h3, h4, h5, _⟩
    have : lo = a₀.size := by omega
    subst this
    exact ⟨rfl, h4, h5⟩
  case post =>
    rintro c st' ⟨rfl, hS, hP⟩
    dsimp only
    refine wpS_bind (wpS_mono (wpS_forRange (I := fun x c st'' => c = (none, ()) ∧ SI a₀ st'' ∧ PI a₀ (arrOf st'') (pendingOf st'') a₀.size ∧ (pendingOf st'').size ≤ max 1 (a₀.size - x))
      (Q := fun c st'' => c = (none, ()) ∧ SI a₀ st'' ∧ PI a₀ (arrOf st'') (pendingOf st'') a₀.size ∧ (pendingOf st'').size ≤ 1) ?mstep ?mfin ⟨rfl, hS, hP, by have := hP.cnt; omega⟩) ?mpost)
    case mfin =>
      rintro c st'' ⟨hc, a, b, d⟩
      exact ⟨hc, a, b, by omega⟩
    case mpost =>
      rintro c st'' ⟨rfl, a, b, d⟩
      refine wpS_pure (h st'' a ?_)
      have hne : (pendingOf st'').size ≠ 0 := fun q => by have := b.empty q; omega
      have hlt : 0 < (pendingOf st'').size := by omega
      obtain ⟨r, hr⟩ : ∃ r, (pendingOf st'')[0]? = some r := ⟨_, Array.getElem?_eq_getElem hlt⟩
      have e1 := b.first r hr
      have e2 := b.last r (by rw [show (pendingOf st'').size - 1 = 0 by omega]; exact hr)
      have e3 := b.seg 0 r hr
      rw [e2, e1] at e3
      exact e3
    case mstep =>
      rintro x c st'' _ hx ⟨rfl, a, b, d⟩
      refine wpS_bind (wpS_get ?_)
      refine wpS_ite (fun z => wpS_pure ⟨rfl, a, b, z⟩) (fun z => ?_)
      refine wpS_bind (wpS_mergeP h0 a b (Nat.le_refl _) ?_ fun st3 a3 b3 c3 _ => ?_)
      · exact Nat.lt_of_le_of_lt (Nat.succ_le_succ ite_pred_le) (by omega)
      simp only [Bool.not_true, Bool.false_eq_true, if_false]
      exact wpS_pure ⟨rfl, a3, b3, by omega⟩
  case step =>
    rintro x c st' _ hx ⟨lo, rfl, h2, h3, hS, hP, hR⟩
    dsimp only
    refine wpS_ite (fun z => wpS_pure ⟨by rw [show lo = a₀.size by omega], hS, by rw [show a₀.size = lo by omega]; exact hP⟩) (fun z => ?_)
    refine wpS_bind (wpS_run h0 hS (by omega) (by omega) hR fun m xs' hS1 hm1 hm2 hs1 hr1 hl1 => ?_)
    dsimp only
    have hP1 : PI a₀ xs' (pendingOf st') lo := hP.congr hl1
    refine wpS_ite (fun y => ?_) (fun y => ?_)
    case' refine_1 =>
      generalize hn : min (a₀.size - lo) (minRun' a₀.size a₀.size 0) = n
      have hn1 : 1 ≤ n := by omega
      have hn2 : lo + n ≤ a₀.size := by omega
      refine wpS_bind (wpS_rule ?_)
      refine wpS_bind (wpS_binary h0 hn2 hm1 (by omega) hS1 hs1 hr1 fun xs2 hS2 hs2 hr2 hl2 => ?_)
      simp only [Bool.not_true, Bool.false_eq_true, if_false]
      have hP2 : PI a₀ xs2 (pendingOf st') lo := hP1.congr hl2
      have hS2' : SI a₀ (setArr st' xs2) := hS2
      show wpS _ _ _ _ _ _ (setArr st' xs2)
      clear hl2 hS2 hP1 hl1 hr1 hs1 hS1 hm2 hm1
    case' refine_2 =>
      obtain ⟨n, rfl⟩ : ∃ n, m = n := ⟨m, rfl⟩
      obtain ⟨xs2, rfl⟩ : ∃ y, xs' = y := ⟨xs', rfl⟩
      have hn1 : 1 ≤ m := hm1
      have hn2 : lo + m ≤ a₀.size := by omega
      have hP2 := hP1
      have hS2' := hS1
      have hs2 := hs1
      have hr2 := hr1
      clear hl1 hr1 hs1 hS1 hm2 hm1 hP1
    all_goals (
      refine wpS_bind (wpS_get ?_)
      rcases hb : (pendingOf st').back? with _ | ⟨s1, n1, pw1⟩
      · dsimp only
        refine wpS_bind (wpS_modify (wpS_pure ⟨_, rfl, by omega, hn2, ⟨hS2'.kind, hS2'.failed, hS2'.size, hS2'.all⟩, hP2.push hs2, hr2⟩))
      · dsimp only
        refine wpS_bind (wpS_mono (wpS_forRange (I := fun _ c st'' => c = (none, ()) ∧ SI a₀ st'' ∧ PI a₀ (arrOf st'') (pendingOf st'') lo ∧ Seg a₀ (arrOf st'') lo (lo + _) ∧ ∀ k, lo + _ ≤ k → (arrOf st'')[k]? = a₀[k]?)
          (Q := fun c st'' => c = (none, ()) ∧ SI a₀ st'' ∧ PI a₀ (arrOf st'') (pendingOf st'') lo ∧ Seg a₀ (arrOf st'') lo (lo + _) ∧ ∀ k, lo + _ ≤ k → (arrOf st'')[k]? = a₀[k]?) ?cstep (fun _ _ q => q) ⟨rfl, hS2', hP2, hs2, hr2⟩) ?cpost)
        case cpost =>
          rintro c st3 ⟨rfl, a, b, d, e⟩
          dsimp only
          refine wpS_bind (wpS_modify (wpS_bind (wpS_modify (wpS_pure ⟨_, rfl, by omega, hn2, ⟨a.kind, a.failed, a.size, a.all⟩, b.power.push d, e⟩))))
        case cstep =>
          rintro y' c st3 _ _ ⟨rfl, a, b, d, e⟩
          refine wpS_bind (wpS_get ?_)
          by_cases v : (pendingOf st3).size > 1
          · rw [if_pos v]
            obtain ⟨⟨q1, q2, older⟩, hq⟩ : ∃ r, (pendingOf st3)[(pendingOf st3).size - 2]? = some r := ⟨_, Array.getElem?_eq_getElem (by omega)⟩
            rw [hq]
            dsimp only
            refine wpS_ite (fun _ => wpS_pure ⟨rfl, a, b, d, e⟩) (fun _ => ?_)
            refine wpS_bind (wpS_mergeP h0 a b (by omega) (by omega) fun st4 a4 b4 _ c4 => ?_)
            simp only [Bool.not_true, Bool.false_eq_true, if_false]
            exact wpS_pure ⟨rfl, a4, b4, d.congr fun k k1 k2 => c4 k k1, fun k hk => (c4 k (by omega)).trans (e k hk)⟩
          · rw [if_neg v]
            exact wpS_pure ⟨rfl, a, b, d, e⟩)
end
end Mine
end

/- text S9 -/
section
open PySem PyProof.Rows PySem.Calls
set_option maxRecDepth 100000
namespace Mine
/-- i is the first of the highest -/
def FirstMax (ks : List Int) (i : Nat) : Prop := i < ks.length ∧ ∀ j, j < ks.length → ks[j]! < ks[i]! ∨ (ks[j]! = ks[i]! ∧ i ≤ j)
section
variable {prog : Program} {w : World} {A : Around} {E : Value → Shared → Prop}
theorem newTuple_abs {M : Model} {xs : List Value} {Q : Value → Shared → Prop} {h : Heap} {g : Array GenState} {d : Drawn} {tk : Tok} {os : OsState} (hq : ∀ p h', h.StaysIn h' → h.get? p = none → Q (.ref p) ⟨h', g, d, tk, os⟩) (hsz : xs.length ≤ sizeLine) : wpAny M A (newTuple xs) Q E ⟨h, g, d, tk, os⟩ :=
  wpAny_newTuple (hq _ _ (fun b o e => Heap.get?_push_of_some _ e) (by cases q : h.get? h.objs.size with
    | none => rfl
    | some o => exact absurd (Heap.lt_size q) (Nat.lt_irrefl _))) hsz
theorem newList_abs {M : Model} {xs : List Value} {Q : Value → Shared → Prop} {h : Heap} {g : Array GenState} {d : Drawn} {tk : Tok} {os : OsState} (hq : ∀ p h', h.StaysIn h' → h.get? p = none → h'.get? p = some (seqObj "list" xs.toArray 0) → Q (.ref p) ⟨h', g, d, tk, os⟩) (hsz : xs.length ≤ sizeLine) : wpAny M A (newList xs) Q E ⟨h, g, d, tk, os⟩ :=
  wpAny_newList (hq _ _ (fun b o e => Heap.get?_push_of_some _ e) (by cases q : h.get? h.objs.size with
    | none => rfl
    | some o => exact absurd (Heap.lt_size q) (Nat.lt_irrefl _)) (Heap.get?_push_size _ rfl)) hsz
theorem listUpdate_abs {M : Model} {a : Addr} {xs : Array Value} {n : Nat} {f : Array Value → Array Value} {Q : Unit → Shared → Prop} {h : Heap} {g : Array GenState} {d : Drawn} {tk : Tok} {os : OsState} (ho : h.get? a = some (seqObj "list" xs n)) (hsz : xs.size ≤ sizeLine) (hsz2 : (f xs).size ≤ sizeLine + 1)
    (hq : ∀ h' e, h'.get? a = some (seqObj "list" (f xs) e) → (∀ b o, b ≠ a → h.get? b = some o → h'.get? b = some o) → Q () ⟨h', g, d, tk, os⟩) : wpAny M A (Builtin.List.listUpdate (.ref a) f) Q E ⟨h, g, d, tk, os⟩ :=
  listUpdate_at ho rfl (hq _ _ (get?_update_seq ho f) fun b o ne e => (Heap.get?_update_ne _ _ _ _ ne).trans e) hsz hsz2
abbrev dbl (vs : List Value) (ks : List Value) : Array Keyed := (ks.toArray.zip vs.toArray).reverse
theorem dbl_size {vs kvs : List Value} (hl : kvs.length = vs.length) : (dbl vs kvs).size = vs.length := by
  rw [Array.size_reverse, Array.size_zip, List.size_toArray, List.size_toArray]; omega
theorem dbl_get {vs kvs : List Value} (hl : kvs.length = vs.length) {j : Nat} (hj : j < vs.length) : (dbl vs kvs)[j]? = some (kvs[vs.length - 1 - j]'(by omega), vs[vs.length - 1 - j]'(by omega)) := by
  have hz : (kvs.toArray.zip vs.toArray).size = vs.length := by rw [Array.size_zip, List.size_toArray, List.size_toArray]; omega
  rw [Array.getElem?_reverse (by rw [hz]; exact hj), hz, Array.getElem?_eq_getElem (by rw [hz]; omega), Array.getElem_zip]
  simp
theorem ints_get {kvs : List Value} {ks : List Int} (h : IntsAre kvs ks) : ∀ {j : Nat} (hj : j < kvs.length), ∃ t, kvs[j] = .int ks[j]! t := by
  induction h with
  | nil => intro j hj; exact absurd hj (Nat.not_lt_zero _)
  | cons n t _ ih =>
    intro j hj
    cases j with
    | zero => exact ⟨t, rfl⟩
    | succ j =>
      obtain ⟨t', e⟩ := ih (j := j) (by simpa using hj)
      exact ⟨t', by simpa using e⟩
theorem dbl_key {vs kvs : List Value} {ks : List Int} (h : IntsAre kvs ks) (hl : kvs.length = vs.length) {j : Nat} (hj : j < vs.length) : K (dbl vs kvs) j = ks[vs.length - 1 - j]! := by
  unfold K
  obtain ⟨t, e⟩ := ints_get h (j := vs.length - 1 - j) (by omega)
  rw [dbl_get hl hj]
  dsimp only
  rw [e]; rfl
theorem dbl_ints {vs kvs : List Value} {ks : List Int} (h : IntsAre kvs ks) (hl : kvs.length = vs.length) : IntKeys (dbl vs kvs) := by
  intro p hp
  obtain ⟨j, hj, rfl⟩ := List.mem_iff_getElem.mp hp
  have hj' : j < (dbl vs kvs).size := by simpa using hj
  have e := dbl_get hl (j := j) (by rw [dbl_size hl] at hj'; exact hj')
  rw [Array.getElem?_eq_getElem hj'] at e
  obtain ⟨t, e2⟩ := ints_get h (j := vs.length - 1 - j) (by rw [dbl_size hl] at hj'; omega)
  refine ⟨ks[vs.length - 1 - j]!, t, ?_⟩
  rw [Array.getElem_toList, Option.some.inj e]
  exact e2
theorem list_sort_key {a f : Addr} {vs : List Value} {ks : List Int} {n : Nat} {P : Fin → Shared → Prop} {h₁ : Heap} {g : Array GenState} {d : Drawn} {tk : Tok} {os : OsState} (ho : h₁.get? a = some (seqObj "list" vs.toArray n))
    (hlen : vs.length = ks.length) (h1 : 1 ≤ vs.length) (hmax : vs.length ≤ 4096)
    (hcall : ∀ h tk i, (∀ b o, b ≠ a → h₁.get? b = some o → h.get? b = some o) → (hi : i < vs.length) → ∀ (Q E : Value → Shared → Prop), (∀ h' tk' t, h.StaysIn h' → Q (.int ks[i]! t) ⟨h', g, d, tk', os⟩) → wpAny (model prog w) A (call (.ref f) [vs[i]]) Q E ⟨h, g, d, tk, os⟩)
    (h : ∀ h' tk' (out : Array Value) e i, (∀ b o, b ≠ a → h₁.get? b = some o → h'.get? b = some o) → h'.get? a = some (seqObj "list" out e) → out.size = vs.length → FirstMax ks i → out[0]? = vs[i]? → P (.done (.ret .none)) ⟨h', g, d, tk', os⟩) :
    wpAny (model prog w) A (Builtin.«list.sort» ⟨[.ref a], [(Str.ofString "key", .ref f), (Str.ofString "reverse", .bool true)]⟩) P E ⟨h₁, g, d, tk, os⟩ := by
  have ha : a < h₁.objs.size := Heap.lt_size ho
  unfold Builtin.«list.sort»
  dsimp only
  rw [if_neg (by simp), if_neg (by simp)]
  have hr : List.lookup (Str.ofString "reverse") [(Str.ofString "key", Value.ref f), (Str.ofString "reverse", Value.bool true)] = some (.bool true) := by kernel_rfl
  have hk : (List.lookup (Str.ofString "key") [(Str.ofString "key", Value.ref f), (Str.ofString "reverse", Value.bool true)]).getD Value.none = .ref f := by kernel_rfl
  have hne : (Value.ref f != Value.none) = true := by rfl
  refine wpAny_bind (wpAny_of_eq (a := PUnit.unit) (by kernel_rfl) ?_)
  rw [hr, hk]
  dsimp only
  refine wpAny_bind (wpAny_truthy_bool ?_)
  refine wpAny_bind (listItems_at ho rfl ?_)
  have sl : ∀ k, k ≤ 4096 → k ≤ sizeLine := fun k hk => by rw [sizeLine_eq]; omega
  refine wpAny_bind (listUpdate_abs ho (sl _ (by simpa using hmax)) (Nat.zero_le _) fun h2 e2 ho2 k2 => ?_)
  refine wpAny_bind (seqEpoch_at ho2 rfl ?_)
  refine wpAny_bind (newTuple_abs (fun pt h3 k3 _ => ?_) (sl _ hmax))
  refine wpAny_bind (newList_abs (fun kS h4 k4 n4 hS => ?_) (Nat.zero_le _))
  refine wpAny_holding ?_
  rw [if_pos hne]
  refine wpAny_bind (wpAny_rule ?_)
  have hSa : a ≠ kS := fun q => by rw [← q, k3 _ _ ho2] at n4; cases n4
  have ho4 := k4 _ _ (k3 _ _ ho2)
  have stay : ∀ b o, b ≠ a → h₁.get? b = some o → b ≠ kS ∧ h4.get? b = some o := fun b o ne e => by
    have e3 := k3 _ _ (k2 b o ne e)
    exact ⟨(fun q => by rw [q, n4] at e3; cases e3), k4 _ _ e3⟩
  refine wpAny_bind (forIn_array_ _ (fun rest _ s' => ∃ i hh tk' kvs e, s' = ⟨hh, g, d, tk', os⟩ ∧ rest = vs.drop i ∧ IntsAre kvs (ks.take i) ∧ i ≤ vs.length ∧ hh.get? kS = some (seqObj "list" kvs.toArray e) ∧ hh.get? a = some (seqObj "list" #[] e2) ∧ ∀ b o, b ≠ a → h₁.get? b = some o → hh.get? b = some o) _ ?_ ?_ _ _ ⟨0, h4, tk, [], 0, rfl, rfl, .nil, Nat.zero_le _, hS, ho4, fun b o ne e => (stay b o ne e).2⟩)
  · rintro x rest _ s' ⟨i, hh, tk', kvs, e, rfl, hrest, hkv, hi, hS', ha', hst⟩
    have hlt : i < vs.length := by
      rcases Nat.lt_or_ge i vs.length with z | z
      · exact z
      · rw [List.drop_eq_nil_of_le z] at hrest; cases hrest
    rw [List.drop_eq_getElem_cons hlt] at hrest
    obtain ⟨rfl, rfl⟩ := List.cons.inj hrest
    have hl' : kvs.length = i := by rw [hkv.length, List.length_take]; omega
    refine wpAny_bind (wpAny_attempt (hcall hh tk' i hst hlt _ _ fun h5 tk5 t5 k5 => ?_))
    dsimp only
    refine wpAny_bind (listUpdate_abs (k5 _ _ hS') (sl _ (by rw [List.size_toArray]; omega)) (by rw [Array.size_push, List.size_toArray]; exact Nat.succ_le_succ (sl _ (by omega))) fun h6 e6 ho6 k6 => ?_)
    refine wpAny_pure ⟨i + 1, h6, tk5, kvs ++ [.int ks[i]! t5], e6, rfl, rfl, ?_, hlt, by rw [List.push_toArray] at ho6; exact ho6, k6 _ _ hSa (k5 _ _ ha'), fun b o ne e => k6 _ _ (stay b o ne e).1 (k5 _ _ (hst b o ne e))⟩
    rw [List.take_add_one, show ks[i]? = some ks[i]! by rw [List.getElem?_eq_getElem (by omega), List.getElem!_eq_getElem?_getD, List.getElem?_eq_getElem (by omega)]; rfl]
    exact hkv.append (.cons _ _ .nil)
  · rintro _ s' ⟨i, hh, tk', kvs, e, rfl, hrest, hkv, hi, hS', ha', hst⟩
    have hil : i = vs.length := by
      have := List.drop_eq_nil_iff.mp hrest.symm
      omega
    rw [if_pos hne]
    refine wpAny_bind (listItems_at hS' rfl ?_)
    rw [if_pos rfl]
    refine wpAny_bind (wpAny_rule ?_)
    have hkl : kvs.length = vs.length := by rw [hkv.length, List.length_take]; omega
    have hkv' : IntsAre kvs ks := by rwa [show ks.take i = ks from List.take_of_length_le (by omega)] at hkv
    have hz := dbl_size (vs := vs) hkl
    have tail : ∀ st' : SortSt, failedOf st' = none → (arrOf st').size = vs.length → Seg (dbl vs kvs) (arrOf st') 0 vs.length → ∃ (out : Array Value) (i : Nat), out = (Array.map (fun x => x.snd) (arrOf st')).reverse ∧ out.size = vs.length ∧ FirstMax ks i ∧ out[0]? = vs[i]? := by
      intro st' _ hsz hG
      obtain ⟨j, ⟨_, j2, j3⟩, ht⟩ := hG.top
      refine ⟨_, vs.length - 1 - j, rfl, by rw [Array.size_reverse, Array.size_map, hsz], ⟨by omega, fun j' hj' => ?_⟩, ?_⟩
      · have := j3 (vs.length - 1 - j') (Nat.zero_le _) (by omega)
        rw [dbl_key hkv' hkl (by omega), dbl_key hkv' hkl j2, show vs.length - 1 - (vs.length - 1 - j') = j' by omega] at this
        rcases this with q | ⟨q1, q2⟩
        · exact .inl q
        · exact .inr ⟨q1, by omega⟩
      · rw [Array.getElem?_reverse (by rw [Array.size_map, hsz]; omega), Array.size_map, hsz, Array.getElem?_map, Nat.sub_zero, ht, dbl_get hkl j2]
        rw [List.getElem?_eq_getElem (by omega)]
        rfl
    by_cases hlt2 : vs.toArray.size < 2
    case' pos =>
      rw [if_pos hlt2, if_pos hlt2]
      refine wpAny_bind (wpAny_pure ?_)
      have hG0 : Seg (dbl vs kvs) (dbl vs kvs) 0 vs.length := by
        rw [List.size_toArray] at hlt2
        have : vs.length = 0 + 1 := by omega
        rw [this]
        exact Seg.one rfl
      refine wpAny_bind (wpAny_mono (Q := fun (r : PUnit × SortSt) s' => s' = ⟨hh, g, d, tk', os⟩ ∧ failedOf r.2 = none ∧ (arrOf r.2).size = vs.length ∧ Seg (dbl vs kvs) (arrOf r.2) 0 vs.length) (wpAny_pure ⟨rfl, rfl, hz, hG0⟩) (fun r s' hr => ?_) fun _ _ e => e)
    case' neg =>
      rw [if_neg hlt2, if_neg hlt2]
      have hkk : keyKind' kvs.toArray = pure oneType' := by
        rw [List.size_toArray] at hlt2
        match kvs, hkv', hkl with
        | [], _, q => simp at q; omega
        | [_], _, q => simp at q; omega
        | v₁ :: v₂ :: r, q, _ => exact keyKind_ints q
      refine wpAny_bind (wpAny_of_eq (a := oneType') hkk ?_)
      refine wpAny_bind (wpAny_mono (Q := fun (r : PUnit × SortSt) s' => s' = ⟨hh, g, d, tk', os⟩ ∧ failedOf r.2 = none ∧ (arrOf r.2).size = vs.length ∧ Seg (dbl vs kvs) (arrOf r.2) 0 vs.length)
        (wpS_sortAll (a₀ := dbl vs kvs) (st := SortSt.mk' oneType' (dbl vs kvs) #[] 7 none) (Q := fun _ st' => failedOf st' = none ∧ (arrOf st').size = vs.length ∧ Seg (dbl vs kvs) (arrOf st') 0 vs.length)
          (dbl_ints hkv' hkl) ⟨rfl, rfl, rfl, fun i hi => ⟨i, hi, rfl⟩⟩ rfl rfl (by rw [hz]; exact h1) fun st' a b => ⟨a.failed, a.size.trans hz, by rw [hz] at b; exact b⟩) (fun r s' hr => ?_) fun _ _ e => e)
    all_goals (
      obtain ⟨⟨⟩, st'⟩ := r
      obtain ⟨rfl, hF, hsz, hG⟩ := hr
      dsimp only at hF hsz hG ⊢
      obtain ⟨out, i', hout, hos, hfm, h0⟩ := tail st' hF hsz hG
      rw [if_pos hne]
      refine wpAny_bind (listUpdate_abs hS' (sl _ (by rw [List.size_toArray]; omega)) (Nat.zero_le _) fun h7 e7 ho7 k7 => ?_)
      refine wpAny_bind (wpAny_letGo ?_)
      have ha7 := k7 _ _ hSa ha'
      refine wpAny_bind (seqEpoch_at ha7 rfl ?_)
      rw [if_pos rfl, ← hout]
      refine wpAny_bind (listUpdate_abs ha7 (Nat.zero_le _) (by rw [hos]; exact Nat.le_succ_of_le (sl _ hmax)) fun h8 e8 ho8 k8 => ?_)
      rw [show (sortPriv% PySem.Builtin.SortState.failed) st' = none from hF]
      dsimp only
      rw [if_neg (by simp)]
      exact wpAny_pure (h h8 _ out e8 i' (fun b o ne e => k8 _ _ ne (k7 _ _ (stay b o ne e).1 (hst b o ne e))) ho8 hos hfm h0))
end
end Mine
end

/- text S10 -/
section
open PySem PyProof.Rows PySem.Calls
set_option maxRecDepth 100000
namespace Mine
theorem args_list_sort_key (a f v : Value) : argsOk "list.sort" ⟨[a], [(Str.ofString "key", f), (Str.ofString "reverse", v)]⟩ := by unfold argsOk; kernel_rfl
theorem args_sorted_key (a f v : Value) : argsOk "sorted" ⟨[a], [(Str.ofString "key", f), (Str.ofString "reverse", v)]⟩ := by unfold argsOk; kernel_rfl
section
variable {prog : Program} {w : World} {A : Around} {E : Value → Shared → Prop}
theorem sorted_key {l f : Addr} {vs : List Value} {ks : List Int} {Q : Value → Shared → Prop} {h₀ : Heap} {g : Array GenState} {d : Drawn} {tk : Tok} {os : OsState} (hl : h₀.IsList l vs.toArray)
    (hlen : vs.length = ks.length) (h1 : 1 ≤ vs.length) (hmax : vs.length ≤ 4096)
    (hcall : ∀ h tk i, h₀.StaysIn h → (hi : i < vs.length) → ∀ (Q E : Value → Shared → Prop), (∀ h' tk' t, h.StaysIn h' → Q (.int ks[i]! t) ⟨h', g, d, tk', os⟩) → wpAny (model prog w) A.in1.in1 (call (.ref f) [vs[i]]) Q E ⟨h, g, d, tk, os⟩)
    (h : ∀ h' tk' r (out : Array Value) e i, h₀.StaysIn h' → @LE.le Nat _ h₀.objs.size r → h'.get? r = some (seqObj "list" out e) → out.size = vs.length → FirstMax ks i → out[0]? = vs[i]? → Q (.ref r) ⟨h', g, d, tk', os⟩) :
    wpAny (model prog w) A (call (.builtin "sorted") [.ref l] [(Str.ofString "key", .ref f), (Str.ofString "reverse", .bool true)]) Q E ⟨h₀, g, d, tk, os⟩ := by
  refine call_function_entry_kw kind_sorted plain_sorted entry_sorted (args_sorted_key _ _ _) ?_
  unfold Builtin.«sorted»
  have sl : vs.length ≤ sizeLine := by rw [sizeLine_eq]; omega
  refine wpAny_bind (m := checkCount "sorted" 1 1 _) (wpAny_pure ?_)
  refine wpAny_bind (collect_list hl ?_ sl)
  have k1 : h₀.StaysIn ((h₀.push (seqObj "list" #[] 0)).update h₀.objs.size (Obj.mapSeq (· ++ vs.toArray))) := fun b o e => (Heap.get?_update_ne _ _ _ _ (Nat.ne_of_lt (Heap.lt_size e))).trans (Heap.get?_push_of_some _ e)
  have sz1 : ((h₀.push (seqObj "list" #[] 0)).update h₀.objs.size (Obj.mapSeq (· ++ vs.toArray))).objs.size = h₀.objs.size + 1 := by rw [Heap.size_update, size_push']
  show wpAny _ _ _ _ _ ⟨(h₀.push (seqObj "list" #[] 0)).update h₀.objs.size (Obj.mapSeq (· ++ vs.toArray)), g, d, tk, os⟩
  generalize (h₀.push (seqObj "list" #[] 0)).update h₀.objs.size (Obj.mapSeq (· ++ vs.toArray)) = h1' at k1 sz1 ⊢
  refine wpAny_bind (wpAny_newList ?_ sl)
  have hoL : (h1'.push (seqObj "list" vs.toArray 0)).get? h1'.objs.size = some (seqObj "list" vs.toArray 0) := Heap.get?_push_size _ rfl
  have k2 : h₀.StaysIn (h1'.push (seqObj "list" vs.toArray 0)) := fun b o e => Heap.get?_push_of_some _ (k1 b o e)
  have hne : ∀ b o, h₀.get? b = some o → b ≠ h1'.objs.size := fun b o e q => by
    have := Heap.lt_size (k1 b o e)
    rw [q] at this
    exact Nat.lt_irrefl _ this
  show wpAny _ _ _ _ _ ⟨h1'.push (seqObj "list" vs.toArray 0), g, d, tk, os⟩
  refine wpAny_bind (wpAny_holding (wpAny_call_entry_kw slot_list_sort ⟨_, hoL, rfl⟩ entry_list_sort (list_sort_key hoL hlen h1 hmax ?_ fun h' tk' out e i k4 ho' hos hfm h0 => ⟨_, rfl, ?_⟩) (args_list_sort_key _ _ _)))
  · intro h3 tk3 i st hi Q' E' hq
    exact hcall h3 tk3 i (fun b o e => st b o (hne b o e) (k2 b o e)) hi Q' E' hq
  · exact wpAny_pure ⟨_, rfl, h h' tk' _ out e i (fun b o e => k4 b o (hne b o e) (k2 b o e)) (by show h₀.objs.size ≤ h1'.objs.size; rw [sz1]; exact Nat.le_succ _) ho' hos hfm h0⟩
end
end Mine
end

/- text D5 -/
section
open PySem PySem.W PyProof.Rows PySem.Calls PyProof.V PySem.Spec
set_option maxRecDepth 100000
namespace Mine
set_option maxHeartbeats 4000000 in
theorem mc_call {w : World} {mean : ExcName → Option Value} {mg mb : Str → Option Value} {A A₀ : Around} {env : Env} {outer : List Env} {base h₀ : Heap} {L : Addr} {m : Str → Option Value} {s : Shared} {Q E : Value → Shared → Prop} {x dx : Addr} {es : Array DictEntry} {ep : Nat} {c : List (Int × Int)} {t1 : Tok}
    (B : Below A₀ base outer h₀) (F : Fr h₀ L s.heap m) (X : (Mine.hd.heap_39 w.params).In h₀) (T : Top PV PL mean mg mb h₀)
    (hA : A.frames = some (env :: outer)) (hf : env.frame = some L) (hke : env.scope.kind = .function) (hh : A.handled = none) (hd : A.depth + 2 < recursionLimit)
    (hx : s.heap.get? x = some (cntObj 285 dx es ep)) (hdx : s.heap.get? dx = some (dictOf [] 0)) (hc : CE c es) (hn : c.length ≤ 4096) (h1 : 1 ≤ c.length) (hxs : (x == sysModules) = false)
    (ret : ∀ h' tk' r p e k t u, s.heap.StaysIn h' → @LE.le Nat _ s.heap.objs.size r → @LE.le Nat _ s.heap.objs.size p → h'.get? r = some (seqObj "list" #[.ref p] e) → h'.get? p = some ({ cls := .type "tuple", data := .seq #[.int k t, u] } : Obj) → (∃ i, FirstMax (c.map (·.2)) i ∧ (c[i]?.map (·.1)) = some k) → Q (.ref r) { s with heap := h', toks := tk' }) :
    wpAny (model PP w) A (call (.ref 105) [.ref x, .int 1 t1]) Q E s := by
  w_top off
  have : PySem.Challenge.rw_dm5011_01 = PySem.Challenge.rw_dm5011_01 ∧ Mine.hd.heap_39 = Mine.hd.heap_39 := by k_fill; exact ⟨rfl, rfl⟩
  clear this
  refine wpAny_call ?_
  k_dflt (refine' callS B F X T hA hf hke ?k6 ?k7 ?k8 ?k9 ?kB ?_ ?c2 ?c3 ?c4 ?c5; (case k6 => k_is); (case k7 => k_is); (case k8 => exact Nat.lt_of_le_of_lt (Nat.le_add_right _ _) hd); (case k9 => exact kp_binds (binds := [(Str.ofString "self", .ref x), (Str.ofString "n", .int 1 t1)]) (X.keeps F.keep) (fun _ => rfl)); (case c5 => exact rfl); (case kB => exact locs rfl); (case c2 => decide); (case c3 => exact rfl); (case c4 => exact rfl))
  intro L' h' F' eL' N' B' X' T'
  dsimp only
  clear B F X T
  try k_fold
  k_steps
  have xd1 : ∀ h, (Mine.hd.heap_39 w.params).In h → Looks (model PP w) h (isSubtype (.ref 285) (.type "dict")) true := fun h Xh => looks_subIn Xh (by k_dflt k_is)
  have xd2 : ∀ h, (Mine.hd.heap_39 w.params).In h → Looks (model PP w) h (isSubtype (.ref 285) (.type "collections.OrderedDict")) false := fun h Xh => looks_subIn Xh (by k_dflt k_is)
  k_dflt (refine' method_D (od := some (dictOf [] 0)) (X'.keeps F'.keep) ⟨F'.keep _ _ hx, rfl, rfl, F'.keep _ _ hdx⟩ ?k1 ?k2 ?k3 ?k4 ?k5 ?k6 ?k7 ?_; (case k1 => k_is); (case k2 => decide +kernel); (case k3 => k_is); (case k4 => k_is); (case k5 => exact rfl); (case k6 => decide +kernel); (case k7 => exact rfl))
  k_steps
  refine items_call (F'.keep _ _ hx) (xd1 _ (X'.keeps F'.keep)) (xd2 _ (X'.keeps F'.keep)) hxs ?_
  have F1 := F'.push (viewObj "dict_items" x)
  have hv1 : (h'.push (viewObj "dict_items" x)).get? h'.objs.size = some (viewObj "dict_items" x) := Heap.get?_push_size _ rfl
  have hx1 := F1.keep _ _ hx
  clear F' N'
  k_steps
  refine list_items (A := A.deeper _) hh hv1 hx1 hc hn ?_
  intro h2 tk2 p as e2 st2 lep hp hal hP hup
  have F2 := PyProof.Rows.Fr.kept F1 st2
  have han0 : ∀ a ∈ as, a ≠ L' ∧ s.heap.get? a = none := fun a ha => kdx_fresh F1 (hup a ha)
  have hup' : ∀ a ∈ as, @LE.le Nat _ s.heap.objs.size a := fun a ha => Nat.le_trans F1.above (Nat.le_trans (Nat.le_of_lt F1.ns.lt) (hup a ha))
  have hpn : p ≠ L' ∧ s.heap.get? p = none := kdx_fresh F1 lep
  obtain ⟨tups, htu, htm⟩ : ∃ tups : List (Addr × Obj), (∀ q ∈ tups, h2.get? q.1 = some q.2 ∧ q.1 ∈ as) ∧ (∀ a ∈ as, ∀ o, h2.get? a = some o → (a, o) ∈ tups) := by
    refine ⟨as.filterMap fun a => (h2.get? a).map fun o => (a, o), fun q hq => ?_, fun a ha o ho => List.mem_filterMap.mpr ⟨a, ha, by rw [ho]; rfl⟩⟩
    obtain ⟨a, ha, e⟩ := List.mem_filterMap.mp hq
    obtain ⟨o, ho, rfl⟩ := Option.map_eq_some_iff.mp e
    exact ⟨ho, ha⟩
  have N2 : News s.heap L' h2 ((p, seqObj "list" (as.map Value.ref).toArray e2) :: tups) := fun q hq => by
    rcases List.mem_cons.mp hq with rfl | hq
    · exact ⟨hp, hpn.1, hpn.2⟩
    · obtain ⟨h1', h2'⟩ := htu q hq
      have := kdx_fresh F1 (hup _ h2')
      exact ⟨h1', this.1, this.2⟩
  clear F1 hv1 hx1 st2
  k_steps
  refine For_invV s.heap rfl rfl ?_
  k_steps
  rename_i h3 F3 N3
  obtain ⟨m3, hm3, F3a⟩ : ∃ m3 : Str → Option Value, m3 = _ ∧ Fr s.heap L' h3 m3 := ⟨_, rfl, F3⟩
  clear F3
  have hl3 : h3.IsList p (as.map Value.ref).toArray := ⟨_, (N3 _ (.head _)).1, rfl, _, rfl⟩
  refine wpAny_pyIter_list hl3 ?_
  have hI3 : (h3.push (itObj p 0)).IsListIter h3.objs.size p 0 := ⟨_, Heap.get?_push_size _ rfl, rfl, rfl⟩
  have hpI : p ≠ h3.objs.size := Nat.ne_of_lt (Heap.lt_size (N3 _ (.head _)).1)
  have F4 := F3a.push (itObj p 0)
  have N4 : News s.heap L' (h3.push (itObj p 0)) ((p, seqObj "list" (as.map Value.ref).toArray e2) :: tups) := fun q hq => ⟨Heap.get?_push_of_some _ (N3 q hq).1, (N3 q hq).2⟩
  have hwr : ∀ q ∈ (p, seqObj "list" (as.map Value.ref).toArray e2) :: tups, q.1 ∉ [h3.objs.size] := fun q hq z => by
    have := Heap.lt_size (N3 q hq).1
    rw [List.mem_singleton.mp z] at this
    exact Nat.lt_irrefl _ this
  have hIn : s.heap.get? h3.objs.size = none := (kdx_fresh F3a (Nat.le_refl _)).2
  have hL'I : L' ≠ h3.objs.size := (kdx_fresh F3a (Nat.le_refl _)).1.symm
  refine ⟨h3.objs.size, [h3.objs.size, p], [h3.objs.size], _, _, _, m3, (p, seqObj "list" (as.map Value.ref).toArray e2) :: tups, fun _ m₁ news₁ => (∃ pv : Option Value, m₁ = fun y => if y = Str.ofString "pair" then pv else m3 y) ∧ ∀ q ∈ (p, seqObj "list" (as.map Value.ref).toArray e2) :: tups, q ∈ news₁, rfl, Walks.list (A := A.deeper _) hh _ p hpI (as.map Value.ref).toArray, ?_, ?_, hwr, ⟨hI3, hl3.push _⟩, F4, N4, ⟨⟨m3 (Str.ofString "pair"), ?_⟩, fun q hq => hq⟩, ?_, ?_⟩
  · intro z
    rcases List.mem_cons.mp z with z | z
    · exact hL'I z
    · exact hpn.1 (List.mem_singleton.mp z).symm
  · intro b hb
    rw [List.mem_singleton.mp hb]; exact hIn
  · funext y
    split
    · rename_i q; rw [q]
    · rfl
  · rintro i v m₁ news₁ s₁ own ⟨h5, tk5, rfl⟩ hi hv ⟨⟨pv, rfl⟩, hsub⟩ hnw hown1 hown2 hown3 hst F5 N5
    obtain ⟨a, ha, rfl⟩ : ∃ a, as[i]? = some a ∧ v = .ref a := by
      have hv' : (as.map Value.ref)[i]? = some v := by simpa using hv
      rw [List.getElem?_map] at hv'
      obtain ⟨a, e1, e2⟩ := Option.map_eq_some_iff.mp hv'
      exact ⟨a, e1, e2.symm⟩
    obtain ⟨k, v, t, u, e1, e2⟩ := hP i a ha
    have htup : IsTup h5 a #[.int k t, .int v u] := by
      have := (N5 _ (List.mem_append_right _ (hsub _ (.tail _ (htm a (List.mem_of_getElem? ha) _ e2))))).1
      exact ⟨_, this, rfl, _, rfl⟩
    k_steps
    exact LoopStepU.intro F5 N5 hnw ⟨⟨some (.ref a), by funext y; by_cases q : y = Str.ofString "pair" <;> simp only [q, if_true, if_false]⟩, hsub⟩
  · rintro h6 tk6 m' news' F6 N6 hnw ⟨⟨pv, rfl⟩, hsub⟩
    subst hm3
    dsimp only
    k_steps
    have F6' : Fr s.heap L' h6 _ := F6
    have N6' : News s.heap L' h6 news' := N6
    show wpAny _ _ (call (.builtin "sorted") [.ref p] [(Str.ofString "key", .ref 59), (Str.ofString "reverse", .bool true)]) _ _ _
    have hl6 : h6.IsList p (as.map Value.ref).toArray := ⟨_, (N6' _ (hsub _ (.head _))).1, rfl, _, rfl⟩
    have tup6 : ∀ i (hi : i < as.length), ∃ k v t u, c[i]? = some (k, v) ∧ h6.get? as[i] = some ({ cls := .type "tuple", data := .seq #[.int k t, .int v u] } : Obj) := fun i hi => by
      have ha : as[i]? = some as[i] := List.getElem?_eq_getElem hi
      obtain ⟨k, v, t, u, e1, e2⟩ := hP i _ ha
      exact ⟨k, v, t, u, e1, (N6' _ (hsub _ (.tail _ (htm _ (List.mem_of_getElem? ha) _ e2)))).1⟩
    refine sorted_key (ks := c.map (·.2)) hl6 (by simp [hal]) (by simpa [hal] using h1) (by simpa [hal] using hn) ?_ ?_
    · intro h tk i st hi Q' E' hq
      have hi' : i < as.length := by simpa using hi
      obtain ⟨k, v, t, u, e1, e2⟩ := tup6 i hi'
      rw [List.getElem_map]
      have hk : (c.map (·.2))[i]! = v := by
        have : (c.map (·.2))[i]? = some v := by rw [List.getElem?_map, e1]; rfl
        rw [List.getElem!_eq_getElem?_getD, this]; rfl
      rw [hk] at hq
      exact second_call B' (PyProof.Rows.Fr.kept F6' st) X' T' (deeper_frames hA) rfl rfl (Nat.lt_of_succ_lt hd) ⟨_, st _ _ e2, rfl, _, rfl⟩ fun h' tk' st' => hq h' tk' u st'
    intro h7 tk7 r out e7 i st7 hr7 hro hos hfm h0
    have hiL : i < as.length := by have := hfm.1; simp only [List.length_map] at this; omega
    obtain ⟨k, v, t, u, e1, e2⟩ := tup6 i hiL
    have F7 := PyProof.Rows.Fr.kept F6' st7
    have hrn := kdx_fresh F6' hr7
    have han := han0 _ (List.getElem_mem hiL)
    have N7 : News s.heap L' h7 [(r, seqObj "list" out e7), (as[i], { cls := .type "tuple", data := .seq #[.int k t, .int v u] })] := fun q hq => by
      rcases List.mem_cons.mp hq with rfl | hq
      · exact ⟨hro, hrn.1, hrn.2⟩
      · obtain rfl := List.mem_singleton.mp hq
        exact ⟨st7 _ _ e2, han.1, han.2⟩
    have hl7 : h7.IsList r out := ⟨_, hro, rfl, _, rfl⟩
    have hout : out[0]? = some (.ref as[i]) := by rw [h0, List.getElem?_map, List.getElem?_eq_getElem hiL]; rfl
    clear F6 F6' N6 N6' F3a F4 N4 N3
    k_steps
    rename_i h8 F8 N8
    have e1' : slicePick out none (some 1) none = #[.ref as[i]] := by
      have hsz : 1 ≤ out.size := by rw [hos, List.length_map]; omega
      have := slicePick_upto out 1 hsz
      rw [show ((1 : Nat) : Int) = 1 from rfl] at this
      rw [this]
      obtain ⟨l⟩ := out
      cases l with
      | nil => simp at hsz
      | cons y ys =>
        have : y = .ref as[i] := by simpa using hout
        subst this; rfl
    rw [e1'] at N8
    have hr8 := N8 _ (.head _)
    have hp8 := N8 _ (.tail _ (.tail _ (.head _)))
    refine ret h8 _ _ as[i] 0 k t (.int v u) F8.keep (Nat.le_trans F7.above (Nat.le_trans (Nat.le_of_lt F7.ns.lt) (Nat.le_succ _))) (hup' _ (List.getElem_mem hiL)) hr8.1 hp8.1 ⟨i, hfm, by rw [e1]; rfl⟩
end Mine
end

/- text M1 -/
section
namespace Mine
/-- the sums of all parts of a list -/
noncomputable def T : List Int → List Int
  | [] => [0]
  | x :: xs => T xs ++ (T xs).map (· + x)
/-- neighbours rise by a at least -/
noncomputable def Rises (a : Int) : List Int → Prop
  | [] => True
  | [_] => True
  | x :: y :: r => x + a ≤ y ∧ Rises a (y :: r)
theorem Rises.tail {a x : Int} {l : List Int} (h : Rises a (x :: l)) : Rises a l := by
  cases l with
  | nil => trivial
  | cons y r => exact h.2
theorem Rises.map {a : Int} (d : Int) : ∀ {l : List Int}, Rises a l → Rises a (l.map (· + d))
  | [], _ => trivial
  | [_], _ => trivial
  | x :: y :: r, h => ⟨by have := h.1; show x + d + a ≤ y + d; omega, Rises.map d h.2⟩
theorem Rises.init {a x : Int} : ∀ {l : List Int}, Rises a (l ++ [x]) → Rises a l
  | [], _ => trivial
  | [_], _ => trivial
  | _ :: y :: r, h => ⟨h.1, Rises.init (l := y :: r) h.2⟩
theorem Rises.snoc {a x y : Int} : ∀ {l : List Int}, Rises a (l ++ [x]) → x + a ≤ y → Rises a (l ++ [x] ++ [y])
  | [], _, h => ⟨h, trivial⟩
  | [_], h, q => ⟨h.1, q, trivial⟩
  | _ :: u :: r, h, q => ⟨h.1, Rises.snoc (l := u :: r) h.2 q⟩
/-- a rising list meets a half-open stretch of k steps at most k times -/
theorem Rises.count {a : Int} (ha : 0 ≤ a) : ∀ (l : List Int) (k : Nat) (lo : Int), Rises a l → (l.filter fun s => decide (lo ≤ s ∧ s < lo + k * a)).length ≤ k := by
  intro l
  induction l with
  | nil => intro k lo _; simp
  | cons x r ih =>
    intro k lo h
    rw [List.filter_cons]
    split
    · rename_i hx
      have hx' : lo ≤ x ∧ x < lo + k * a := by simpa using hx
      cases k with
      | zero => exfalso; simp at hx'; omega
      | succ k =>
        have above : ∀ (l : List Int) (m : Int), Rises a (m :: l) → lo ≤ m → ∀ s ∈ l, lo + a ≤ s := by
          intro l
          induction l with
          | nil => intro m _ _ s hs; cases hs
          | cons y t iht =>
            intro m hm hlo s hs
            have h1 := hm.1
            rcases List.mem_cons.mp hs with rfl | hs
            · omega
            · exact iht y hm.2 (by omega) s hs
        have hsub : (r.filter fun s => decide (lo ≤ s ∧ s < lo + (k + 1 : Nat) * a)).length ≤ (r.filter fun s => decide (lo + a ≤ s ∧ s < lo + a + k * a)).length := by
          have e : (r.filter fun s => decide (lo ≤ s ∧ s < lo + (k + 1 : Nat) * a)) = r.filter fun s => decide (lo + a ≤ s ∧ s < lo + a + k * a) := by
            apply List.filter_congr
            intro s hs
            have h1 := above r x h hx'.1 s hs
            have h2 : ((k + 1 : Nat) : Int) * a = k * a + a := by rw [Int.natCast_add, Int.add_mul]; simp
            rw [h2, decide_eq_decide]
            omega
          rw [e]; exact Nat.le_refl _
        have := ih k (lo + a) h.tail
        simp only [List.length_cons]
        omega
    · exact ih k lo h.tail
/-- one number more: what becomes of a chain -/
def grow (x : Int) (c : List Int) : List (List Int) :=
  if 0 ≤ x then [c ++ (c.reverse.head?.map (· + x)).toList, c.dropLast.map (· + x)] else [(c.head?.map (· + x)).toList ++ c, c.tail.map (· + x)]
theorem grow_perm (x : Int) (c : List Int) : (grow x c).flatten.Perm (c ++ c.map (· + x)) := by
  unfold grow
  split
  · rcases List.eq_nil_or_concat c with rfl | ⟨i, y, rfl⟩
    · simp
    · simp only [List.concat_eq_append, List.reverse_append, List.reverse_cons, List.reverse_nil, List.nil_append, List.singleton_append, List.head?_cons, Option.map_some, Option.toList_some, List.dropLast_concat, List.flatten_cons, List.flatten_nil, List.append_nil, List.map_append, List.map_cons, List.map_nil, List.append_assoc]
      exact List.Perm.append_left i (List.Perm.cons y (List.perm_append_singleton (y + x) (i.map (· + x))).symm)
  · cases c with
    | nil => simp
    | cons y t =>
      simp only [List.head?_cons, Option.map_some, Option.toList_some, List.tail_cons, List.flatten_cons, List.flatten_nil, List.append_nil, List.map_cons, List.cons_append]
      exact (List.perm_middle (a := y + x) (l₁ := y :: t) (l₂ := t.map (· + x))).symm
theorem grow_rises {a x : Int} {c : List Int} (hx : a ≤ x ∨ x ≤ -a) (ha : 0 < a) (h : Rises a c) : ∀ d ∈ grow x c, Rises a d := by
  unfold grow
  split
  · rename_i h0
    have hx' : a ≤ x := by omega
    rcases List.eq_nil_or_concat c with rfl | ⟨i, y, rfl⟩
    · intro d hd; simp at hd; subst hd; trivial
    · intro d hd
      simp only [List.concat_eq_append, List.reverse_append, List.reverse_cons, List.reverse_nil, List.nil_append, List.singleton_append, List.head?_cons, Option.map_some, Option.toList_some, List.dropLast_concat] at hd h
      rcases List.mem_cons.mp hd with rfl | hd
      · exact Rises.snoc h (by omega)
      · rw [List.mem_singleton.mp hd]; exact (Rises.init h).map x
  · rename_i h0
    have hx' : x ≤ -a := by omega
    cases c with
    | nil => intro d hd; simp at hd; subst hd; trivial
    | cons y t =>
      intro d hd
      simp only [List.head?_cons, Option.map_some, Option.toList_some, List.tail_cons, List.singleton_append] at hd
      rcases List.mem_cons.mp hd with rfl | hd
      · exact ⟨by omega, h⟩
      · rw [List.mem_singleton.mp hd]; exact h.tail.map x
theorem grow_len (x : Int) (c : List Int) (hc : c ≠ []) : (grow x c).map List.length = [c.length + 1, c.length - 1] := by
  unfold grow
  split
  · rcases List.eq_nil_or_concat c with rfl | ⟨i, y, rfl⟩
    · exact absurd rfl hc
    · simp
  · cases c with
    | nil => exact absurd rfl hc
    | cons y t => simp

/-- the lengths of the chains, one number more -/
def step (ls : List Nat) : List Nat := (ls.flatMap fun n => [n + 1, n - 1]).filter (0 < ·)
structure Cov (a : Int) (S : List Int) (ls : List Nat) : Prop where
  ex : ∃ cs : List (List Int), cs.flatten.Perm S ∧ (∀ c ∈ cs, Rises a c) ∧ (∀ c ∈ cs, c ≠ []) ∧ cs.map List.length = ls
theorem flatten_filter (cs : List (List Int)) : (cs.filter fun c => decide (0 < c.length)).flatten = cs.flatten := by
  induction cs with
  | nil => rfl
  | cons c cs ih =>
    rw [List.filter_cons]
    split
    · rw [List.flatten_cons, List.flatten_cons, ih]
    · rename_i h
      have : c = [] := by
        cases c with
        | nil => rfl
        | cons _ _ => simp at h
      rw [this, List.flatten_cons, List.nil_append, ih]
theorem Cov.step {a x : Int} {S : List Int} {ls : List Nat} (ha : 0 < a) (hx : a ≤ x ∨ x ≤ -a) (h : Cov a S ls) : Cov a (S ++ S.map (· + x)) (step ls) := by
  obtain ⟨cs, hp, hr, hn, hl⟩ := h.ex
  refine ⟨(cs.flatMap (grow x)).filter fun c => decide (0 < c.length), ?_, ?_, ?_, ?_⟩
  · rw [flatten_filter]
    have key : ∀ cs : List (List Int), (cs.flatMap (grow x)).flatten.Perm (cs.flatten ++ cs.flatten.map (· + x)) := by
      intro cs
      induction cs with
      | nil => simp
      | cons c cs ih =>
        rw [List.flatMap_cons, List.flatten_append, List.flatten_cons, List.map_append]
        have h1 := (grow_perm x c).append ih
        refine h1.trans ?_
        rw [List.append_assoc, List.append_assoc]
        refine List.Perm.append_left c ?_
        rw [← List.append_assoc, ← List.append_assoc]
        exact List.Perm.append_right _ List.perm_append_comm
    exact (key cs).trans (hp.append (hp.map _))
  · intro d hd
    obtain ⟨c, hc, hd⟩ := List.mem_flatMap.mp (List.mem_filter.mp hd).1
    exact grow_rises hx ha (hr c hc) d hd
  · intro d hd e
    have := (List.mem_filter.mp hd).2
    rw [e] at this
    simp at this
  · rw [← hl]
    have key : ∀ cs : List (List Int), (∀ c ∈ cs, c ≠ []) → ((cs.flatMap (grow x)).filter fun c => decide (0 < c.length)).map List.length = Mine.step (cs.map List.length) := by
      intro cs
      induction cs with
      | nil => intro _; rfl
      | cons c cs ih =>
        intro hn
        have h1 := grow_len x c (hn c (.head _))
        have h2 := ih fun d hd => hn d (.tail _ hd)
        unfold Mine.step at h2 ⊢
        rw [List.flatMap_cons, List.filter_append, List.map_append, h2, List.map_cons, List.flatMap_cons, List.filter_append]
        congr 1
        rw [← h1, List.filter_map]
        rfl
    exact key cs hn
theorem Cov.nil (a : Int) : Cov a [0] [1] := ⟨[[0]], by simp, by intro c hc; rw [List.mem_singleton.mp hc]; trivial, by intro c hc; rw [List.mem_singleton.mp hc]; simp, rfl⟩
noncomputable def lens : Nat → List Nat
  | 0 => [1]
  | n + 1 => step (lens n)
theorem cov_T {a : Int} (ha : 0 < a) : ∀ ns : List Int, (∀ x ∈ ns, a ≤ x ∨ x ≤ -a) → Cov a (T ns) (lens ns.length)
  | [], _ => Cov.nil a
  | x :: xs, h => Cov.step ha (h x (.head _)) (cov_T ha xs fun y hy => h y (.tail _ hy))
theorem Cov.count {a : Int} {S : List Int} {ls : List Nat} (ha : 0 < a) (h : Cov a S ls) (k : Nat) (lo : Int) : (S.filter fun s => decide (lo ≤ s ∧ s < lo + k * a)).length ≤ (ls.map fun n => min k n).sum := by
  obtain ⟨cs, hp, hr, hn, hl⟩ := h.ex
  rw [← (hp.filter _).length_eq, ← hl]
  clear hp hl hn
  induction cs with
  | nil => simp
  | cons c cs ih =>
    rw [List.flatten_cons, List.filter_append, List.length_append, List.map_cons, List.map_cons, List.sum_cons]
    have h1 := Rises.count (Int.le_of_lt ha) c k lo (hr c (.head _))
    have h2 := ih fun d hd => hr d (.tail _ hd)
    have h3 := List.length_filter_le (fun s => decide (lo ≤ s ∧ s < lo + k * a)) c
    exact Nat.add_le_add (Nat.le_min.mpr ⟨h1, h3⟩) h2
end Mine
end

/- text M2 -/
section
open PySem PySem.W
namespace Mine
/-- c counts what was seen -/
structure Cnt (c : List (Int × Int)) (seen : List Int) : Prop where
  nodup : (c.map (·.1)).Nodup
  mem : ∀ k v, (k, v) ∈ c ↔ k ∈ seen ∧ v = (seen.count k : Int)
theorem Cnt.nil : Cnt [] [] := ⟨List.nodup_nil, fun k v => by simp⟩
theorem find_key {c : List (Int × Int)} (hn : (c.map (·.1)).Nodup) {k v : Int} (h : (k, v) ∈ c) : c.find? (fun p => decide (p.1 = k)) = some (k, v) := by
  induction c with
  | nil => cases h
  | cons p c ih =>
    have hn' := List.nodup_cons.mp (show (p.1 :: c.map (·.1)).Nodup from hn)
    rw [List.find?_cons]
    rcases List.mem_cons.mp h with rfl | h
    · simp
    · have : p.1 ≠ k := fun q => hn'.1 (q ▸ List.mem_map.mpr ⟨_, h, rfl⟩)
      simp only [this, decide_false]
      exact ih hn'.2 h
theorem Cnt.look {c : List (Int × Int)} {seen : List Int} (h : Cnt c seen) (k : Int) : kdfLook c k 0 = (seen.count k : Int) := by
  unfold kdfLook
  by_cases hk : k ∈ seen
  · rw [find_key h.nodup ((h.mem k _).mpr ⟨hk, rfl⟩)]; rfl
  · rw [List.find?_eq_none.mpr, List.count_eq_zero_of_not_mem hk]
    · rfl
    · rintro ⟨k', v⟩ hp q
      have : k' = k := by simpa using q
      subst this
      exact hk ((h.mem _ _).mp hp).1
theorem Cnt.put {c : List (Int × Int)} {seen : List Int} (h : Cnt c seen) (x : Int) : Cnt (kdfPut c x (kdfLook c x 0 + 1)) (seen ++ [x]) := by
  refine ⟨put_keys_nodup h.nodup _ _, fun k v => ?_⟩
  rw [h.look, List.count_append, List.mem_append, List.mem_singleton]
  unfold kdfPut
  by_cases hx : x ∈ seen
  · have ha : c.any (fun p => decide (p.1 = x)) = true := List.any_eq_true.mpr ⟨_, (h.mem x _).mpr ⟨hx, rfl⟩, by simp⟩
    rw [if_pos ha, List.mem_map]
    constructor
    · rintro ⟨⟨k', v'⟩, hp, e⟩
      have hm := (h.mem _ _).mp hp
      by_cases q : k' = x
      · subst q
        simp only [decide_true, if_true, Prod.mk.injEq] at e
        obtain ⟨rfl, rfl⟩ := e
        exact ⟨.inl hm.1, by simp⟩
      · simp only [q, decide_false, Bool.false_eq_true, if_false, Prod.mk.injEq] at e
        obtain ⟨rfl, rfl⟩ := e
        exact ⟨.inl hm.1, by rw [hm.2]; simp [Ne.symm q]⟩
    · rintro ⟨hk, rfl⟩
      have hk' : k ∈ seen := hk.elim id fun e => e ▸ hx
      refine ⟨(k, (seen.count k : Int)), (h.mem _ _).mpr ⟨hk', rfl⟩, ?_⟩
      by_cases q : k = x
      · subst q; simp
      · simp [q, Ne.symm q]
  · have ha : c.any (fun p => decide (p.1 = x)) = false := by
      rw [List.any_eq_false]
      rintro ⟨k', v'⟩ hp q
      have : k' = x := by simpa using q
      subst this
      exact hx ((h.mem _ _).mp hp).1
    rw [ha, if_neg Bool.false_ne_true, List.mem_append, List.mem_singleton, h.mem, Prod.mk.injEq]
    constructor
    · rintro (⟨hk, rfl⟩ | ⟨rfl, rfl⟩)
      · have q : x ≠ k := fun e => hx (e ▸ hk)
        exact ⟨.inl hk, by simp [q]⟩
      · exact ⟨.inr rfl, by simp⟩
    · rintro ⟨hk, rfl⟩
      by_cases q : k = x
      · subst q; exact .inr ⟨rfl, by simp⟩
      · exact .inl ⟨hk.resolve_right q, by simp [Ne.symm q]⟩
theorem Cnt.fold : ∀ (ns : List Int) (c : List (Int × Int)) (seen : List Int), Cnt c seen → Cnt (ns.foldl (fun c n => kdfPut c n (kdfLook c n 0 + 1)) c) (seen ++ ns)
  | [], c, seen, h => by simpa using h
  | n :: ns, c, seen, h => by
    have := Cnt.fold ns _ _ (h.put n)
    rw [List.append_assoc] at this
    exact this
theorem tally_cnt (ns : List Int) : Cnt (tally ns) ns := Cnt.fold ns [] [] .nil
theorem tally_ne {ns : List Int} (h : ns ≠ []) : tally ns ≠ [] := by
  cases ns with
  | nil => exact absurd rfl h
  | cons n ns =>
    intro e
    have := ((tally_cnt (n :: ns)).mem n _).mpr ⟨.head _, rfl⟩
    rw [e] at this
    cases this
end Mine
end

/- text E1 -/
section
open PySem PySem.W PyProof.Rows PySem.Calls PyProof.V PySem.Spec
set_option maxRecDepth 100000
namespace Mine
section
variable {prog : Program} {w : World} {A : Around} {E : Value → Shared → Prop}
theorem iter_call {l : Addr} {items : Array Value} {Q : Value → Shared → Prop} {s : Shared} (hl : s.heap.IsList l items) (hq : Q (.ref s.heap.objs.size) { s with heap := s.heap.push (itObj l 0) }) : wpAny (model prog w) A (call (.builtin "iter") [.ref l]) Q E s := by
  obtain ⟨h, g, d, tk, os⟩ := s
  refine call_function_entry (by decide +kernel) (by decide +kernel) kdk_entry_iter (kdk_args_iter _) ?_
  unfold Builtin.«iter»
  repeat (first | with_reducible refine wpAny_pyIter_list hl ?_ | lk)
  exact ⟨_, rfl, hq⟩
end
theorem Fr.hide {g h : Heap} {L : Addr} {m : Str → Option Value} (F : Fr g L h m) {a : Addr} (ha : g.get? a = none) (hL : a ≠ L) : Fr g L (hideAll h [a]) m := by
  obtain ⟨oL, e1, e2, hL', r⟩ := F.ns
  exact ⟨⟨oL, e1, e2, hideAll_get _ hL' (fun q => hL (List.mem_singleton.mp q).symm), r⟩, fun b o e => hideAll_get _ (F.keep b o e) (fun q => by rw [List.mem_singleton.mp q, ha] at e; cases e), F.above⟩
theorem counter_K {w : World} {mean : ExcName → Option Value} {mg mb : Str → Option Value} {outer : List Env} {A₀ A : Around} {base h₀ : Heap} {L : Addr} {m : Str → Option Value} {s : Shared} {Q E : Value → Shared → Prop} {env : Env} {l it : Addr} {vs : List Value} {ns : List Int}
    (B : Below A₀ base outer h₀) (F : Fr h₀ L s.heap m) (X : (Mine.hd.heap_39 w.params).In h₀) (T : Top PV PL mean mg mb h₀) (XB : (Mine.hd.heap_39 w.params).In base) (TB : Top PV PL mean mg mb base) (N : News h₀ L s.heap [(it, itObj l 0)])
    (hA : A.frames = some (env :: outer)) (hf : env.frame = some L) (hke : env.scope.kind = .function) (hh : A.handled = none) (hd : A.depth + 4 < recursionLimit)
    (hl : h₀.IsList l vs.toArray) (hi : IntsAre vs ns) (hn : vs.length ≤ 4096)
    (ret : ∀ x dx h' tk' es n g', KtsTurn (frs outer) h₀ g' → Fr g' L h' m → Below A₀ base outer g' → (Mine.hd.heap_39 w.params).In g' → Top PV PL mean mg mb g' → h'.get? x = some (cntObj 285 dx es n) → h'.get? dx = some (dictOf [] 0) → CE (tally ns) es → (x == sysModules) = false →
      @LE.le Nat _ h₀.objs.size dx → dx < x → x ≠ L → dx ≠ L → Q (.ref x) { s with heap := h', toks := tk' }) :
    wpAny (model PP w) A (call (.ref 285) [.ref it]) Q E s := by
  refine counter_call (ns := ns) B F X T XB TB N hA hf hke hh hd (.head _) hl hi hn fun x dx h' tk' es n l1 l2 hxs Tn' hx hdx hce => ?_
  have hit := N _ (.head _)
  obtain ⟨g', KT, F', B'⟩ := reground (env := env) B (Fr.hide F hit.2.2 hit.2.1) hf Tn'
  have hL := F.ns.lt
  exact ret x dx h' tk' es n g' KT F' B' (XB.keeps B'.stays) (TB.keeps B'.stays) hx hdx hce hxs (Nat.le_trans F.above (Nat.le_trans (Nat.le_of_lt hL) l1)) l2
    (Nat.ne_of_gt (Nat.lt_of_lt_of_le hL (Nat.le_trans l1 (Nat.le_of_lt l2)))) (Nat.ne_of_gt (Nat.lt_of_lt_of_le hL l1))
set_option maxHeartbeats 4000000 in
theorem mode_call {w : World} {mean : ExcName → Option Value} {mg mb : Str → Option Value} {A A₀ : Around} {env : Env} {outer : List Env} {base h₀ : Heap} {L : Addr} {m : Str → Option Value} {s : Shared} {Q E : Value → Shared → Prop} {l : Addr} {vs : List Value} {ns : List Int}
    (B : Below A₀ base outer h₀) (F : Fr h₀ L s.heap m) (X : (Mine.hd.heap_39 w.params).In h₀) (T : Top PV PL mean mg mb h₀) (XB : (Mine.hd.heap_39 w.params).In base) (TB : Top PV PL mean mg mb base)
    (hA : A.frames = some (env :: outer)) (hf : env.frame = some L) (hke : env.scope.kind = .function) (hh : A.handled = none) (hd : A.depth + 6 < recursionLimit)
    (hl : s.heap.IsList l vs.toArray) (hi : IntsAre vs ns) (hn : vs.length ≤ 4096) (h1 : 1 ≤ vs.length)
    (ret : ∀ h' tk' k t, Tn (frs (env :: outer)) s.heap h' → (∃ i, FirstMax ((tally ns).map (·.2)) i ∧ ((tally ns)[i]?.map (·.1)) = some k) → Q (.int k t) { s with heap := h', toks := tk' }) :
    wpAny (model PP w) A (call (.ref 296) [.ref l]) Q E s := by
  w_top off
  have : PySem.Challenge.rw_dm5011_01 = PySem.Challenge.rw_dm5011_01 ∧ Mine.hd.heap_39 = Mine.hd.heap_39 := by k_fill; exact ⟨rfl, rfl⟩
  clear this
  refine wpAny_call ?_
  k_dflt (refine' callS B F X T hA hf hke ?k6 ?k7 ?k8 ?k9 ?kB ?_ ?c2 ?c3 ?c4 ?c5; (case k6 => k_is); (case k7 => k_is); (case k8 => exact Nat.lt_of_le_of_lt (Nat.le_add_right _ _) hd); (case k9 => exact kp_binds (binds := [(Str.ofString "data", .ref l)]) (X.keeps F.keep) (fun _ => rfl)); (case c5 => exact rfl); (case kB => exact locs rfl); (case c2 => decide); (case c3 => exact rfl); (case c4 => exact rfl))
  intro L' h' F' eL' N' B' X' T'
  dsimp only
  clear B F X T
  try k_fold
  k_steps
  have hl' : h'.IsList l vs.toArray := let ⟨o, ho, r⟩ := hl; ⟨o, F'.keep l o ho, r⟩
  refine iter_call hl' ?_
  have F1 := F'.push (itObj l 0)
  have N1 := N'.push F' (itObj l 0)
  have hIf := kdx_fresh F' (x := h'.objs.size) (Nat.le_refl _)
  have hIn : @LE.le Nat _ s.heap.objs.size h'.objs.size := Nat.le_trans F'.above (Nat.le_of_lt F'.ns.lt)
  clear F' N'
  dsimp only
  generalize h'.push (itObj l 0) = h2 at F1 N1 ⊢
  generalize h'.objs.size = I at N1 hIf hIn ⊢
  k_steps
  refine counter_K (ns := ns) B' F1 X' T' XB TB N1 (deeper_frames hA) rfl rfl hh (show A.depth + 5 < recursionLimit from Nat.lt_of_succ_lt hd) hl hi hn ?_
  intro x dx h3 tk3 es n g3 KT F3 B3 X3 T3 hx hdx hce hxs _ _ _ _
  clear B' X' T' F1 N1
  have N3 : News g3 L' h3 [] := News.nil
  have L1 : @LT.lt Nat _ (A.deeper env).depth recursionLimit := Nat.lt_of_le_of_lt (Nat.add_le_add_left (show 1 ≤ 6 by decide) _) hd
  k_steps
  k_dflt (refine' method_D (K := Mine.hd.heap_39 w.params) (od := some (dictOf [] 0)) (X3.keeps F3.keep) ⟨hx, rfl, rfl, hdx⟩ ?k1 ?k2 ?k3 ?k4 ?k5 ?k6 ?k7 ?_; (case k1 => k_is); (case k2 => decide +kernel); (case k3 => k_is); (case k4 => k_is); (case k5 => exact rfl); (case k6 => decide +kernel); (case k7 => exact rfl))
  k_steps
  have hlen : vs.length = ns.length := hi.length
  have hne : ns ≠ [] := fun q => by rw [hlen, q] at h1; exact absurd h1 (by decide)
  have ht1 : 1 ≤ (tally ns).length := Nat.one_le_iff_ne_zero.mpr fun q => absurd (List.eq_nil_of_length_eq_zero q) (tally_ne hne)
  have ht2 : (tally ns).length ≤ 4096 := Nat.le_trans (tally_len ns) (hlen ▸ hn)
  refine mc_call B3 F3 X3 T3 (deeper_frames hA) rfl rfl hh (show A.depth + 1 + 2 < recursionLimit from Nat.lt_of_le_of_lt (Nat.add_le_add_left (show 3 ≤ 6 by decide) _) hd) hx hdx hce ht2 ht1 hxs ?_
  intro h4 tk4 r p e k t u st4 hr hp hro hpo hfm
  have F4 := PyProof.Rows.Fr.kept F3 st4
  have hrf := kdx_fresh F3 hr
  have hpf := kdx_fresh F3 hp
  have N4 : News g3 L' h4 [(r, seqObj "list" #[.ref p] e), (p, { cls := .type "tuple", data := .seq #[.int k t, u] })] := fun q hq => by
    rcases List.mem_cons.mp hq with rfl | hq
    · exact ⟨hro, hrf.1, hrf.2⟩
    · obtain rfl := List.mem_singleton.mp hq
      exact ⟨hpo, hpf.1, hpf.2⟩
  clear F3 N3 hx hdx
  k_steps
  rename_i h5 F5 N5
  dsimp only
  exact ret _ _ k t ((Tn.of_turn KT).trans (Tn.of_stays F5.keep)) hfm
end Mine
end

/- text G0 -/
section
open PySem PySem.W PyProof.Rows PySem.Calls PyProof.V PySem.Spec
set_option maxRecDepth 100000
namespace Mine
section
variable {prog : Program} {w : World} {A : Around} {h₀ : Heap} {L : Addr} {m : Str → Option Value} {env : Env}
/-- a comprehension that turns number into number, over a list of any length -/
theorem rest_map {elt : PySem.Expr} {x : Str} {scope : Scope} {cl : List (Str × Addr)} {s : Shared} {ax : Addr} {its : Array Value} {Fin : List Value → List (Addr × Obj) → Prop} {news : List (Addr × Obj)} {ns : List Int} (f : Int → Int) (hi : IntsAre its.toList ns) (hS : LCg.SrcAt h₀ ax its news)
    (turn : ∀ n t I oI C oC D oD m₂ h tk (E' : Value → Shared → Prop) (Q' : Value → Shared → Prop), LCg.NsObj oC m₂ → m₂ x = some (.int n t) → Fr h₀ L h m → News h₀ L h ((I, oI) :: (C, oC) :: (D, oD) :: news) → (∀ tk' u, Q' (.int (f n) u) { s with heap := h, toks := tk' }) →
      wpAny (model prog w) A (eval elt (compEnvC scope cl C env)) Q' E' { s with heap := h, toks := tk })
    (fin : ∀ ys, IntsAre ys (ns.map f) → Fin ys news) :
    ∀ k i ys, its.size - i = k → i ≤ its.size → IntsAre ys ((ns.take i).map f) → LCg.CompRest prog w A h₀ L m env elt x scope cl s (LCg.SrcAt h₀ ax its) (fun i v => its[i]? = some v) Fin k i ys news := by
  have hlen : its.size = ns.length := by have := hi.length; simpa using this
  intro k
  induction k with
  | zero =>
    intro i ys hk hle hys
    refine LCg.CompRest.zero (fin ys ?_)
    rwa [List.take_of_length_le (by omega)] at hys
  | succ k ih =>
    intro i ys hk hle hys
    refine LCg.CompRest.succ fun v I oI C oC D m₂ h tk E' hv hC hm F N off ne => ?_
    have hlt : i < ns.length := by omega
    obtain ⟨t, rfl⟩ : ∃ t, v = .int ns[i] t := by
      have hl : i < its.toList.length := by simp; omega
      obtain ⟨t, e⟩ := ints_get hi hl
      have : its[i]? = some its.toList[i] := by rw [← Array.getElem?_toList]; exact List.getElem?_eq_getElem hl
      rw [this] at hv
      exact ⟨t, by rw [← Option.some.inj hv, e, List.getElem!_eq_getElem?_getD, List.getElem?_eq_getElem hlt]; rfl⟩
    refine turn ns[i] t I oI C oC D _ m₂ h tk E' _ hC hm F N fun tk' u => ?_
    refine ⟨h, tk', news, rfl, F, N, off, hS, ih (i + 1) _ (by omega) (by omega) ?_⟩
    rw [List.take_add_one, List.getElem?_eq_getElem hlt, Option.toList_some, List.map_append]
    exact hys.append (.cons _ _ .nil)
end
end Mine
end

/- text L4 -/
section
open PySem PySem.W PyProof.Rows PySem.Calls PyProof.V PySem.Spec
set_option maxRecDepth 100000
namespace Mine
noncomputable abbrev lawM5 (L fa : Addr) (cd : Value) (l r nb : Addr) (n : Int) (kd sz : Int) (t1 t2 t3 : Tok) (pi : Option Value) : Str → Option Value := fun y => if y = Str.ofString "i" then pi else if y = Str.ofString "numbers" then some (.ref nb) else if y = Str.ofString "size" then some (.int sz t3) else if y = Str.ofString "kind" then some (.int kd t2) else if y = Str.ofString "n" then some (.int n t1) else if y = Str.ofString "row" then some (.ref r) else lawM0 L fa cd (.ref l) y
/-- the sums of a part, in the law's order -/
def sumsF (xs : List Int) : List Int := xs.foldl (fun S x => S ++ S.map (· + x)) [0]
theorem sumsF_succ {xs : List Int} {i : Nat} (h : i < xs.length) : sumsF (xs.take (i + 1)) = sumsF (xs.take i) ++ (sumsF (xs.take i)).map (· + xs[i]!) := by
  unfold sumsF
  rw [List.take_add_one, List.getElem?_eq_getElem h, Option.toList_some, List.foldl_append, getElem!_pos xs i h]
  rfl
set_option maxHeartbeats 4000000 in
theorem law4 {w : World} {mean : ExcName → Option Value} {mg mb : Str → Option Value} {A : Around} {base h₀ : Heap} {L fa : Addr} {cd : Value} {s : Shared} {Q : Flow → Shared → Prop} {l r nb : Addr} {us : List Value} {xs : List Int} {e1 : Nat} {c1 c2 c3 c4 c5 c6 : Obj}
    {t1 t2 t3 : Tok} {n : Nat} {kd sz : Int} {pi : Option Value} {v1 v2 : Option Value}
    (B : Below A base [] h₀) (F : Fr h₀ L s.heap (lawM5 L fa cd l r nb n kd sz t1 t2 t3 pi)) (X : (Mine.hd.heap_39 w.params).In h₀) (T : Top PV PL mean mg mb h₀)
    (hh : A.handled = none) (hd : A.depth + 200 < recursionLimit)
    (N : News h₀ L s.heap [(nb, listOf us.toArray e1), (L + 6, c6), (L + 5, c5), (L + 4, c4), (L + 3, c3), (L + 2, c2), (L + 1, c1)])
    (l1 : @LT.lt Nat _ (L + 6) nb ∧ @LT.lt Nat _ (L + 5) nb ∧ @LT.lt Nat _ (L + 4) nb ∧ @LT.lt Nat _ (L + 3) nb ∧ @LT.lt Nat _ (L + 2) nb ∧ @LT.lt Nat _ (L + 1) nb)
    (hu : IntsAre us xs) (hul : us.length ≤ 7) (hc1 : c1.data = .cell v1) (hc2 : c2.data = .cell v2)
    (k : ∀ h tk sm ss e o1 o2 v2', @LT.lt Nat _ nb sm → Fr h₀ L h (lawM5 L fa cd l r nb n kd sz t1 t2 t3 pi) → News h₀ L h [(sm, listOf ss.toArray e), (nb, listOf us.toArray e1), (L + 6, c6), (L + 5, c5), (L + 4, c4), (L + 3, c3), (L + 2, o2), (L + 1, o1)] → o1.data = .cell (some (.ref sm)) → o2.data = .cell v2' → IntsAre ss (sumsF xs) → ss.length = 2 ^ xs.length →
      wpAny (model PP w) (A.deeper (lawEnv L fa cd)) (execs (lawFrom 8) (lawEnv L fa cd)) Q (fun _ _ => False) { s with heap := h, toks := tk }) :
    wpAny (model PP w) (A.deeper (lawEnv L fa cd)) (execs (lawFrom 6) (lawEnv L fa cd)) Q (fun _ _ => False) s := by
  w_top off
  have : PySem.Challenge.rw_dm5011_01 = PySem.Challenge.rw_dm5011_01 ∧ Mine.hd.heap_39 = Mine.hd.heap_39 := by k_fill; exact ⟨rfl, rfl⟩
  clear this
  have hB1 : lawSt 6 = lawSt 6 := rfl
  conv at hB1 => rhs; whnf
  have hB2 : lawSt 7 = lawSt 7 := rfl
  conv at hB2 => rhs; whnf
  have hS : lawScope = lawScope := rfl
  conv at hS => rhs; whnf
  rw [law_drop 6 (by decide), law_drop 7 (by decide), hB1, hB2]
  generalize lawFrom 8 = rest at k ⊢
  unfold lawM5 lawM0 lawEnv at *
  simp only [hS] at F ⊢
  clear hB1 hB2
  k_steps
  rename_i l2 _ l2f h2 co1 F2 N2 d2
  refine For_invT h₀ ?_ (fun _ => rfl)
  k_steps
  obtain ⟨m1, hm1, F2a⟩ : ∃ m1 : Str → Option Value, m1 = _ ∧ Fr h₀ L h2 m1 := ⟨_, rfl, F2⟩
  clear F2
  refine list_loopT (l := nb) (vs := us) (e := e1) (fun i m' news' => m' = m1 ∧ ∃ sm ss e o1 o2 v2', (@LT.lt Nat _ nb sm ∧ @LT.lt Nat _ (L + 6) sm) ∧ news' = [(sm, listOf ss.toArray e), (nb, listOf us.toArray e1), (L + 6, c6), (L + 5, c5), (L + 4, c4), (L + 3, c3), (L + 2, o2), (L + 1, o1)] ∧ o1.data = .cell (some (.ref sm)) ∧ o2.data = .cell v2' ∧ IntsAre ss (sumsF (xs.take i)) ∧ ss.length = 2 ^ i)
    hh (.tail _ (.head _)) F2a N2 ⟨rfl, l2, [.int 0 s.toks], 0, co1, c2, v2, ⟨l2f.1, l2f.2.1⟩, rfl, d2, hc2, .cons _ _ .nil, rfl⟩ ?_ ?_ ?_ ?_
  · rintro i m' news' ⟨_, sm, ss, e, o1, o2, v2', _, rfl, _⟩
    exact .tail _ (.head _)
  · intro s' I v Q' q
    exact wpAny_pure q
  · rintro i v m₁ news₁ ⟨h, gg, dd, tk1, oss⟩ I o Q' hv ⟨rfl, sm, ss, e, o1, o2, v2', ⟨q1, q2⟩, rfl, ho1, ho2, hss, hsl⟩ hne F3 N3 next
    subst hm1
    have hlt : i < us.length := (List.getElem?_eq_some_iff.mp hv).1
    obtain ⟨t, rfl⟩ : ∃ t, v = .int xs[i]! t := by
      obtain ⟨t, e⟩ := ints_get hu hlt
      rw [List.getElem?_eq_getElem hlt, e] at hv
      exact ⟨t, (Option.some.inj hv).symm⟩
    dsimp only at F3 N3 next
    simp only [List.cons_append, List.nil_append] at N3
    clear N2 F2a d2 co1
    have hI1 : @Ne Nat sm I := hne _ (.head _)
    have hI2 : @Ne Nat nb I := hne _ (.tail _ (.head _))
    have hI3 : @Ne Nat (L + 6) I ∧ @Ne Nat (L + 5) I ∧ @Ne Nat (L + 4) I ∧ @Ne Nat (L + 3) I ∧ @Ne Nat (L + 2) I ∧ @Ne Nat (L + 1) I := ⟨hne _ (.tail _ (.tail _ (.head _))), hne _ (.tail _ (.tail _ (.tail _ (.head _)))), hne _ (.tail _ (.tail _ (.tail _ (.tail _ (.head _))))), hne _ (.tail _ (.tail _ (.tail _ (.tail _ (.tail _ (.head _)))))), hne _ (.tail _ (.tail _ (.tail _ (.tail _ (.tail _ (.tail _ (.head _))))))), hne _ (.tail _ (.tail _ (.tail _ (.tail _ (.tail _ (.tail _ (.tail _ (.head _)))))))) ⟩
    k_steps
    rename_i h4 o2' F4 N4 d4
    have hsm : (sm, listOf ss.toArray e) ∈ [(sm, listOf ss.toArray e), (nb, listOf us.toArray e1), (L + 6, c6), (L + 5, c5), (L + 4, c4), (L + 3, c3), (L + 1 + 1, o2'), (L + 1, o1), (I, o)] := .head _
    refine LCg.CompSrc.ledger hh F4 N4 hsm (by rw [List.size_toArray, sizeLine_eq, hsl]; exact Nat.le_trans (Nat.pow_le_pow_right (by decide) (show i ≤ 7 from by omega)) (by decide)) (fun g => ?_)
    refine rest_map (ns := sumsF (xs.take i)) (fun n => n + xs[i]!) (by simpa using hss) (.inr ⟨_, hsm, rfl, _, rfl⟩) ?_ ?_ _ 0 [] rfl (Nat.zero_le _) .nil
    · intro n' t' I' oI C oC D oD m₂ h tk E' Q' hC hm F N q
      k_steps
      exact q _ _
    · intro ys hys D h tk F N off
      have hyl : ys.length = ss.length := by rw [hys.length, List.length_map, ← hss.length]
      have hsb : ss.length ≤ 128 := by rw [hsl]; exact Nat.le_trans (Nat.pow_le_pow_right (by decide) (show i ≤ 7 from by omega)) (by decide)
      have hyb : ys.length ≤ 128 := hyl ▸ hsb
      k_steps
      rename_i h5 F5 N5
      dsimp only at F5 N5 ⊢
      have g0 : @LT.lt Nat _ sm h.objs.size := Heap.lt_size (N _ (.tail _ (.head _))).1
      have g1 : @LT.lt Nat _ nb h.objs.size := Heap.lt_size (N _ (.tail _ (.tail _ (.head _)))).1
      have g2 : @LT.lt Nat _ I h.objs.size := Heap.lt_size (N _ (.tail _ (.tail _ (.tail _ (.tail _ (.tail _ (.tail _ (.tail _ (.tail _ (.tail _ (.head _))))))))))).1
      have N6 : News h₀ L h5 [(h.objs.size, listOf (ss ++ ys).toArray 0), (nb, W.listOf us.toArray e1), (L + 6, c6), (L + 5, c5), (L + 4, c4), (L + 3, c3), (L + 1 + 1, o2'), (L + 1, o1), (I, o)] := fun q hq => by
        rcases List.mem_cons.mp hq with rfl | hq
        · exact N5 _ (.head _)
        · exact N5 _ (.tail _ (.tail _ (.tail _ hq)))
      generalize h.objs.size = sm' at F5 N6 g0 g1 g2 ⊢
      clear N5 N F off N4 F4 N3 F3 hsm
      k_steps
      rename_i h8 o1' F8 N8 d8
      have hlx : i < xs.length := by rw [← hu.length]; exact hlt
      refine next h8 _ _ [(sm', listOf (ss ++ ys).toArray 0), (nb, listOf us.toArray e1), (L + 6, c6), (L + 5, c5), (L + 4, c4), (L + 3, c3), (L + 2, o2'), (L + 1, o1')] F8 N8 (fun p hp => ?_) ⟨rfl, sm', ss ++ ys, 0, o1', o2', _, ⟨g1, Nat.lt_trans q2 g0⟩, rfl, d8, d4, ?_, ?_⟩
      · simp only [List.mem_cons, List.not_mem_nil, or_false] at hp
        rcases hp with rfl | rfl | rfl | rfl | rfl | rfl | rfl | rfl
        · exact Nat.ne_of_gt g2
        · exact hI2
        · exact hI3.1
        · exact hI3.2.1
        · exact hI3.2.2.1
        · exact hI3.2.2.2.1
        · exact hI3.2.2.2.2.1
        · exact hI3.2.2.2.2.2
      · rw [sumsF_succ hlx]
        exact hss.append hys
      · rw [List.length_append, hyl, hsl, Nat.pow_succ]; omega
  · rintro h' tk' m' news' F' N' ⟨rfl, sm, ss, e, o1, o2, v2', ⟨q1, q2⟩, rfl, ho1, ho2, hss, hsl⟩
    subst hm1
    rw [hu.length, List.take_length] at hss
    rw [hu.length] at hsl
    exact k h' tk' sm ss e o1 o2 v2' q1 F' N' ho1 ho2 hss hsl
end Mine
end

/- text L5a -/
section
open PySem PySem.W PyProof.Rows PySem.Calls PyProof.V PySem.Spec
set_option maxRecDepth 100000
namespace Mine
section
variable {prog : Program} {w : World} {A : Around} {h₀ : Heap} {L : Addr} {m : Str → Option Value} {env : Env}
/-- a comprehension over a range, each turn a number -/
theorem rest_range {elt : PySem.Expr} {x : Str} {scope : Scope} {cl : List (Str × Addr)} {s : Shared} {Fin : List Value → List (Addr × Obj) → Prop} {news : List (Addr × Obj)} {n : Nat} {a : Int} (f : Nat → Int)
    (turn : ∀ (i : Nat) t I oI C oC D oD m₂ h tk (E' : Value → Shared → Prop) (Q' : Value → Shared → Prop), i < n → LCg.NsObj oC m₂ → m₂ x = some (.int (a + i) t) → Fr h₀ L h m → News h₀ L h ((I, oI) :: (C, oC) :: (D, oD) :: news) → (∀ tk' u, Q' (.int (f i) u) { s with heap := h, toks := tk' }) →
      wpAny (model prog w) A (eval elt (compEnvC scope cl C env)) Q' E' { s with heap := h, toks := tk })
    (fin : ∀ ys, IntsAre ys ((List.range n).map f) → Fin ys news) :
    ∀ k i ys, n - i = k → i ≤ n → IntsAre ys ((List.range i).map f) → LCg.CompRest prog w A h₀ L m env elt x scope cl s (fun _ => True) (fun i v => ∃ t, v = .int (a + (i : Int)) t) Fin k i ys news := by
  intro k
  induction k with
  | zero =>
    intro i ys hk hle hys
    refine LCg.CompRest.zero (fin ys ?_)
    rwa [show i = n from by omega] at hys
  | succ k ih =>
    intro i ys hk hle hys
    refine LCg.CompRest.succ fun v I oI C oC D m₂ h tk E' hv hC hm F N off ne => ?_
    obtain ⟨t, rfl⟩ := hv
    refine turn i t I oI C oC D _ m₂ h tk E' _ (by omega) hC hm F N fun tk' u => ?_
    refine ⟨h, tk', news, rfl, F, N, off, True.intro, ih (i + 1) _ (by omega) (by omega) ?_⟩
    rw [List.range_succ, List.map_append]
    exact hys.append (.cons _ _ .nil)
end
end Mine
end

/- text M3 -/
section
open PySem PySem.W
namespace Mine
theorem T_swap (x y : Int) (l : List Int) : (T (x :: y :: l)).Perm (T (y :: x :: l)) := by
  show ((T l ++ (T l).map (· + y)) ++ (T l ++ (T l).map (· + y)).map (· + x)).Perm ((T l ++ (T l).map (· + x)) ++ (T l ++ (T l).map (· + x)).map (· + y))
  rw [List.map_append, List.map_append, List.map_map, List.map_map]
  have e : (T l).map ((· + x) ∘ (· + y)) = (T l).map ((· + y) ∘ (· + x)) := List.map_congr_left fun s _ => by simp only [Function.comp]; omega
  rw [e, List.append_assoc, List.append_assoc]
  refine List.Perm.append_left _ ?_
  rw [← List.append_assoc, ← List.append_assoc]
  exact List.Perm.append_right _ List.perm_append_comm
theorem T_perm {ns ms : List Int} (h : ns.Perm ms) : (T ns).Perm (T ms) := by
  induction h with
  | nil => exact .refl _
  | cons x _ ih => exact ih.append (ih.map _)
  | swap x y l => exact T_swap y x l
  | trans _ _ h1 h2 => exact h1.trans h2
theorem perm_of_count4 {a b c d a' b' c' d' : Int} (h : ∀ x : Int, [a, b, c, d].count x = [a', b', c', d'].count x) : [a, b, c, d].Perm [a', b', c', d'] := List.perm_iff_count.mpr h
/-- two numbers of unlike size give one chain -/
theorem cov_two {p q : Int} (hp : p ≠ 0) (hq : q ≠ 0) (h : p.natAbs < q.natAbs) : Cov 1 (T [p, q]) [4] := by
  have e : T [p, q] = [0, q, p, q + p] := by simp [T]
  rw [e]
  rcases Int.lt_or_gt_of_ne hp with p0 | p0 <;> rcases Int.lt_or_gt_of_ne hq with q0 | q0
  · refine ⟨[[q + p, q, p, 0]], ?_, fun c hc => ?_, fun c hc => by rw [List.mem_singleton.mp hc]; simp, rfl⟩
    · rw [List.flatten_cons, List.flatten_nil, List.append_nil]
      exact perm_of_count4 fun x => by simp only [List.count_cons, List.count_nil]; omega
    · rw [List.mem_singleton.mp hc]; exact ⟨by omega, by omega, by omega, trivial⟩
  · refine ⟨[[p, 0, q + p, q]], ?_, fun c hc => ?_, fun c hc => by rw [List.mem_singleton.mp hc]; simp, rfl⟩
    · rw [List.flatten_cons, List.flatten_nil, List.append_nil]
      exact perm_of_count4 fun x => by simp only [List.count_cons, List.count_nil]; omega
    · rw [List.mem_singleton.mp hc]; exact ⟨by omega, by omega, by omega, trivial⟩
  · refine ⟨[[q, q + p, 0, p]], ?_, fun c hc => ?_, fun c hc => by rw [List.mem_singleton.mp hc]; simp, rfl⟩
    · rw [List.flatten_cons, List.flatten_nil, List.append_nil]
      exact perm_of_count4 fun x => by simp only [List.count_cons, List.count_nil]; omega
    · rw [List.mem_singleton.mp hc]; exact ⟨by omega, by omega, by omega, trivial⟩
  · refine ⟨[[0, p, q, q + p]], ?_, fun c hc => ?_, fun c hc => by rw [List.mem_singleton.mp hc]; simp, rfl⟩
    · rw [List.flatten_cons, List.flatten_nil, List.append_nil]
      exact perm_of_count4 fun x => by simp only [List.count_cons, List.count_nil]; omega
    · rw [List.mem_singleton.mp hc]; exact ⟨by omega, by omega, by omega, trivial⟩
noncomputable def lens2 : Nat → List Nat
  | 0 => [4]
  | n + 1 => step (lens2 n)
theorem cov_T2 {p q : Int} (hp : p ≠ 0) (hq : q ≠ 0) (h : p.natAbs < q.natAbs) : ∀ ns : List Int, (∀ x ∈ ns, x ≠ 0) → Cov 1 (T (ns ++ [p, q])) (lens2 ns.length)
  | [], _ => cov_two hp hq h
  | x :: xs, hx => Cov.step (by decide) (by have := hx x (.head _); omega) (cov_T2 hp hq h xs fun y hy => hx y (.tail _ hy))
theorem count_eq_filter (v : Int) (S : List Int) : S.count v = (S.filter fun s => decide (v ≤ s ∧ s < v + (1 : Nat) * 1)).length := by
  rw [List.count_eq_length_filter]
  congr 1
  apply List.filter_congr
  intro s _
  by_cases h : s = v
  · subst h; simp; omega
  · have h1 : (s == v) = false := by simpa using h
    rw [h1]
    symm
    rw [decide_eq_false_iff_not]
    omega
theorem Cov.most {S : List Int} {ls : List Nat} (h : Cov 1 S ls) (v : Int) : S.count v ≤ (ls.map fun n => min 1 n).sum := by
  rw [count_eq_filter]; exact h.count (by decide) 1 v
/-- no value is met more often than there are chains -/
theorem most_le {ns : List Int} (h : ∀ x ∈ ns, x ≠ 0) (v : Int) : (T ns).count v ≤ ((lens ns.length).map fun n => min 1 n).sum :=
  (cov_T (a := 1) (by decide) ns fun x hx => by have := h x hx; omega).most v
/-- two of unlike size: fewer -/
theorem most_lt {ns : List Int} (h : ∀ x ∈ ns, x ≠ 0) {p q : Int} (hp : p ∈ ns) (hq : q ∈ ns) (hpq : p.natAbs < q.natAbs) (v : Int) : (T ns).count v ≤ ((lens2 (ns.length - 2)).map fun n => min 1 n).sum := by
  obtain ⟨r, hr⟩ : ∃ r, ns.Perm (r ++ [p, q]) := by
    have hne : q ≠ p := fun e => by rw [e] at hpq; exact Nat.lt_irrefl _ hpq
    have h1 := List.perm_cons_erase hp
    have hq' : q ∈ ns.erase p := (List.mem_erase_of_ne hne).mpr hq
    have h2 := List.perm_cons_erase hq'
    exact ⟨(ns.erase p).erase q, h1.trans ((List.Perm.cons p h2).trans (List.perm_append_comm (l₁ := [p, q])))⟩
  have hm : ∀ x ∈ r, x ≠ 0 := fun x hx => h x (hr.mem_iff.mpr (List.mem_append_left _ hx))
  have hl : ns.length - 2 = r.length := by rw [hr.length_eq, List.length_append]; simp
  rw [(T_perm hr).count_eq, hl]
  exact (cov_T2 (h p hp) (h q hq) hpq r hm).most v
end Mine
end

/- text M4 -/
section
open PySem PySem.W
namespace Mine
/-- the numbers of the triangle, nothing outside -/
noncomputable def ch : Nat → Int → Nat
  | 0, j => if j = 0 then 1 else 0
  | n + 1, j => ch n j + ch n (j - 1)
theorem count_map_add (S : List Int) (x v : Int) : (S.map (· + x)).count v = S.count (v - x) := by
  induction S with
  | nil => rfl
  | cons s S ih =>
    rw [List.map_cons, List.count_cons, List.count_cons, ih]
    congr 1
    by_cases h : s = v - x
    · have : s + x = v := by omega
      simp [h]
    · have : ¬(s + x = v) := by omega
      simp [h, this]
def negs (ns : List Int) : Nat := (ns.filter fun x => decide (x < 0)).length
/-- all of one size: the sums' counts are the triangle's row -/
theorem alike_count {a : Int} (ha : 0 < a) : ∀ ns : List Int, (∀ x ∈ ns, x = a ∨ x = -a) → ∀ j : Int, (T ns).count (a * (j - negs ns)) = ch ns.length j
  | [], _, j => by
    show [0].count (a * (j - 0)) = if j = 0 then 1 else 0
    by_cases h : j = 0
    · subst h; simp
    · rw [if_neg h, List.count_eq_zero]
      intro hm
      have : a * (j - 0) = 0 := by simpa using hm
      rcases Int.mul_eq_zero.mp this with q | q
      · omega
      · exact h (by omega)
  | x :: xs, hx, j => by
    have ih := alike_count ha xs fun y hy => hx y (.tail _ hy)
    show (T xs ++ (T xs).map (· + x)).count _ = ch xs.length j + ch xs.length (j - 1)
    rw [List.count_append, count_map_add]
    rcases hx x (.head _) with rfl | rfl
    · have hn : negs (x :: xs) = negs xs := by unfold negs; rw [List.filter_cons, if_neg (by simp; omega)]
      rw [hn, ih j, ← ih (j - 1)]
      congr 2
      rw [show j - 1 - (negs xs : Int) = j - negs xs - 1 by omega, Int.mul_sub x _ 1]; omega
    · have hn : negs (-a :: xs) = negs xs + 1 := by unfold negs; rw [List.filter_cons, if_pos (by simp; omega)]; rfl
      rw [hn, Nat.add_comm, ← ih j, ← ih (j - 1)]
      have e1 : a * (j - ((negs xs + 1 : Nat) : Int)) - -a = a * (j - negs xs) := by
        rw [show j - ((negs xs + 1 : Nat) : Int) = j - negs xs - 1 by omega, Int.mul_sub a _ 1]; omega
      rw [e1]
      congr 2
      rw [show j - ((negs xs + 1 : Nat) : Int) = j - 1 - negs xs by omega]
theorem alike_form {a : Int} : ∀ ns : List Int, (∀ x ∈ ns, x = a ∨ x = -a) → ∀ s ∈ T ns, ∃ j : Int, s = a * (j - negs ns)
  | [], _, s, hs => ⟨0, by have : s = 0 := by simpa [T] using hs
                           subst this; simp [negs]⟩
  | x :: xs, hx, s, hs => by
    have ih := alike_form xs fun y hy => hx y (.tail _ hy)
    by_cases h0 : x < 0
    · have hn : (negs (x :: xs) : Int) = negs xs + 1 := by unfold negs; rw [List.filter_cons, if_pos (by simpa using h0)]; simp
      rw [hn]
      rcases List.mem_append.mp (show s ∈ T xs ++ (T xs).map (· + x) from hs) with h | h
      · obtain ⟨j, rfl⟩ := ih s h
        exact ⟨j + 1, by congr 1; omega⟩
      · obtain ⟨s', hs', rfl⟩ := List.mem_map.mp h
        obtain ⟨j, rfl⟩ := ih s' hs'
        rcases hx x (.head _) with rfl | rfl
        · exact ⟨j + 2, by rw [show j + 2 - ((negs xs : Int) + 1) = j - negs xs + 1 by omega, Int.mul_add]; simp⟩
        · exact ⟨j, by rw [show j - ((negs xs : Int) + 1) = j - negs xs - 1 by omega, Int.mul_sub a _ 1]; omega⟩
    · have hn : (negs (x :: xs) : Int) = negs xs := by unfold negs; rw [List.filter_cons, if_neg (by simpa using h0)]
      rw [hn]
      rcases List.mem_append.mp (show s ∈ T xs ++ (T xs).map (· + x) from hs) with h | h
      · obtain ⟨j, rfl⟩ := ih s h
        exact ⟨j, rfl⟩
      · obtain ⟨s', hs', rfl⟩ := List.mem_map.mp h
        obtain ⟨j, rfl⟩ := ih s' hs'
        rcases hx x (.head _) with rfl | rfl
        · exact ⟨j + 1, by rw [show j + 1 - (negs xs : Int) = j - negs xs + 1 by omega, Int.mul_add]; simp⟩
        · exact ⟨j - 1, by rw [show j - 1 - (negs xs : Int) = j - negs xs - 1 by omega, Int.mul_sub a _ 1]; omega⟩
theorem ch_out : ∀ (n : Nat) (j : Int), j < 0 ∨ (n : Int) < j → ch n j = 0
  | 0, j, h => by show (if j = 0 then 1 else 0) = 0; rw [if_neg (by omega)]
  | n + 1, j, h => by show ch n j + ch n (j - 1) = 0; rw [ch_out n j (by omega), ch_out n (j - 1) (by omega)]
end Mine
end

/- text M5 -/
section
open PySem PySem.W
namespace Mine
theorem sorted_unique : ∀ {l m : List Int}, l.Perm m → l.Pairwise (· ≤ ·) → m.Pairwise (· ≤ ·) → l = m
  | [], m, h, _, _ => by rw [List.nil_perm.mp h]
  | x :: l, [], h, _, _ => by have := h.length_eq; simp at this
  | x :: l, y :: m, h, h1, h2 => by
    obtain ⟨a1, a2⟩ := List.pairwise_cons.mp h1
    obtain ⟨b1, b2⟩ := List.pairwise_cons.mp h2
    have e : x = y := by
      rcases List.mem_cons.mp (h.mem_iff.mp (.head _)) with q | q
      · exact q
      · rcases List.mem_cons.mp (h.mem_iff.mpr (.head _)) with r | r
        · exact r.symm
        · exact Int.le_antisymm (a1 y r) (b1 x q)
    subst e
    rw [sorted_unique (List.perm_cons x |>.mp h) a2 b2]
noncomputable def rowI : Nat → List Int
  | 0 => [1]
  | n + 1 => ([1] : List Int) ++ (List.range ((rowI n).length - 1)).map (fun j => (rowI n)[j]! + (rowI n)[j + 1]!) ++ [1]
def rowS : Nat → List Int
  | 1 => [1, 1] | 2 => [1, 1, 2] | 3 => [1, 1, 3, 3] | 4 => [1, 1, 4, 4, 6] | 5 => [1, 1, 5, 5, 10, 10] | 6 => [1, 1, 6, 6, 15, 15, 20] | 7 => [1, 1, 7, 7, 21, 21, 35, 35] | _ => []
noncomputable def cap (n k : Nat) : Nat := ((lens n).map fun m => min k m).sum
theorem row_mid : ∀ n, 1 ≤ n → n ≤ 7 → (rowI n)[n / 2]! = (cap n 1 : Int) := by
  intro n h1 h7
  have : n = 1 ∨ n = 2 ∨ n = 3 ∨ n = 4 ∨ n = 5 ∨ n = 6 ∨ n = 7 := by omega
  rcases this with rfl | rfl | rfl | rfl | rfl | rfl | rfl <;> decide +kernel
theorem rowS_perm : ∀ n, 1 ≤ n → n ≤ 7 → (rowI n).Perm (rowS n) ∧ (rowS n).Pairwise (· ≤ ·) ∧ (rowI n).length = n + 1 := by
  intro n h1 h7
  have : n = 1 ∨ n = 2 ∨ n = 3 ∨ n = 4 ∨ n = 5 ∨ n = 6 ∨ n = 7 := by omega
  rcases this with rfl | rfl | rfl | rfl | rfl | rfl | rfl <;> exact ⟨List.isPerm_iff.mp (by decide +kernel), by decide +kernel, by decide +kernel⟩
theorem row_cap : ∀ n k, 1 ≤ n → n ≤ 7 → (k = 1 ∨ k = 2 ∨ k = 3) → ((rowS n).drop ((rowS n).length - k)).sum = (cap n k : Int) := by
  intro n k h1 h7 hk
  have : n = 1 ∨ n = 2 ∨ n = 3 ∨ n = 4 ∨ n = 5 ∨ n = 6 ∨ n = 7 := by omega
  rcases this with rfl | rfl | rfl | rfl | rfl | rfl | rfl <;> rcases hk with rfl | rfl | rfl <;> decide +kernel
theorem cap2 : ∀ n, 2 ≤ n → n ≤ 7 → ((lens2 (n - 2)).map fun m => min 1 m).sum < cap n 1 := by
  intro n h1 h7
  have : n = 2 ∨ n = 3 ∨ n = 4 ∨ n = 5 ∨ n = 6 ∨ n = 7 := by omega
  rcases this with rfl | rfl | rfl | rfl | rfl | rfl <;> decide +kernel
theorem cap_pos : ∀ n, 1 ≤ n → n ≤ 7 → 0 < cap n 1 := by
  intro n h1 h7
  have : n = 1 ∨ n = 2 ∨ n = 3 ∨ n = 4 ∨ n = 5 ∨ n = 6 ∨ n = 7 := by omega
  rcases this with rfl | rfl | rfl | rfl | rfl | rfl | rfl <;> decide +kernel
theorem ch_mid : ∀ n, 1 ≤ n → n ≤ 7 → ∀ j : Int, ch n j = cap n 1 ↔ j = n / 2 ∨ (n % 2 = 1 ∧ j = n / 2 + 1) := by
  intro n h1 h7 j
  have h0 : 0 < cap n 1 := by
    have : n = 1 ∨ n = 2 ∨ n = 3 ∨ n = 4 ∨ n = 5 ∨ n = 6 ∨ n = 7 := by omega
    rcases this with rfl | rfl | rfl | rfl | rfl | rfl | rfl <;> decide +kernel
  by_cases hj : 0 ≤ j ∧ j ≤ 7
  · have hn : n = 1 ∨ n = 2 ∨ n = 3 ∨ n = 4 ∨ n = 5 ∨ n = 6 ∨ n = 7 := by omega
    have hj' : j = 0 ∨ j = 1 ∨ j = 2 ∨ j = 3 ∨ j = 4 ∨ j = 5 ∨ j = 6 ∨ j = 7 := by omega
    rcases hn with rfl | rfl | rfl | rfl | rfl | rfl | rfl <;> rcases hj' with rfl | rfl | rfl | rfl | rfl | rfl | rfl | rfl <;> decide +kernel
  · rw [ch_out n j (by omega)]
    constructor
    · intro e; omega
    · intro e; exfalso; omega
section
variable {S ns : List Int} {n : Nat}
theorem count_le_cap (hS : S.Perm (T ns)) (hn : ns.length = n) (h0 : ∀ x ∈ ns, x ≠ 0) (v : Int) : S.count v ≤ cap n 1 := by
  rw [hS.count_eq, ← hn]; exact most_le h0 v
theorem count_lt_cap (hS : S.Perm (T ns)) (hn : ns.length = n) (h1 : 1 ≤ n) (h7 : n ≤ 7) (h0 : ∀ x ∈ ns, x ≠ 0) {p q : Int} (hp : p ∈ ns) (hq : q ∈ ns) (hpq : p.natAbs < q.natAbs) (v : Int) : S.count v < cap n 1 := by
  have h2 : 2 ≤ n := by
    rcases Nat.lt_or_ge n 2 with z | z
    · exfalso
      have : ns.length = 1 := by omega
      obtain ⟨x, rfl⟩ := List.length_eq_one_iff.mp this
      rw [List.mem_singleton.mp hp, List.mem_singleton.mp hq] at hpq
      exact Nat.lt_irrefl _ hpq
    · exact z
  rw [hS.count_eq]
  have := most_lt h0 hp hq hpq v
  rw [hn] at this
  exact Nat.lt_of_le_of_lt this (cap2 n h2 h7)
theorem alike_mid (hS : S.Perm (T ns)) (hn : ns.length = n) (h1 : 1 ≤ n) (h7 : n ≤ 7) {a : Int} (ha : 0 < a) (hx : ∀ x ∈ ns, x = a ∨ x = -a) (v : Int) : S.count v = cap n 1 ↔ v = a * ((n / 2 : Nat) - negs ns) ∨ (n % 2 = 1 ∧ v = a * ((n / 2 : Nat) + 1 - negs ns)) := by
  rw [hS.count_eq]
  have h0 := cap_pos n h1 h7
  constructor
  · intro e
    have hv : v ∈ T ns := List.count_pos_iff.mp (by rw [e]; exact h0)
    obtain ⟨j, rfl⟩ := alike_form ns hx v hv
    rw [alike_count ha ns hx j, hn, ch_mid n h1 h7] at e
    rcases e with e | ⟨e1, e⟩
    · exact .inl (by rw [e]; rfl)
    · exact .inr ⟨e1, by rw [e]; rfl⟩
  · rintro (rfl | ⟨e1, rfl⟩)
    · rw [show a * (((n / 2 : Nat) : Int) - negs ns) = a * ((n : Int) / 2 - negs ns) from rfl, alike_count ha ns hx, hn]
      exact (ch_mid n h1 h7 _).mpr (.inl rfl)
    · rw [show a * (((n / 2 : Nat) : Int) + 1 - negs ns) = a * ((n : Int) / 2 + 1 - negs ns) from rfl, alike_count ha ns hx, hn]
      exact (ch_mid n h1 h7 _).mpr (.inr ⟨e1, rfl⟩)
theorem cell_le (hS : S.Perm (T ns)) (hn : ns.length = n) {a : Int} (ha : 0 < a) (hx : ∀ x ∈ ns, a ≤ x ∨ x ≤ -a) {k : Nat} (hk : 0 < k) (c : Int) : (S.map fun s => s.fdiv (k * a)).count c ≤ cap n k := by
  have hw : 0 < (k : Int) * a := Int.mul_pos (by omega) ha
  have e : (S.map fun s => s.fdiv (k * a)).count c = (S.filter fun s => decide (c * (k * a) ≤ s ∧ s < c * (k * a) + k * a)).length := by
    rw [List.count_eq_length_filter, List.filter_map, List.length_map]
    congr 1
    apply List.filter_congr
    intro s _
    simp only [Function.comp]
    rw [Int.fdiv_eq_ediv_of_nonneg _ (Int.le_of_lt hw)]
    have key : s / (k * a) = c ↔ c * (k * a) ≤ s ∧ s < c * (k * a) + k * a := by
      constructor
      · rintro rfl
        have h1 := Int.ediv_mul_le s (Int.ne_of_gt hw)
        have h2 := Int.lt_ediv_add_one_mul_self s hw
        rw [Int.add_mul, Int.one_mul] at h2
        exact ⟨h1, h2⟩
      · rintro ⟨h1, h2⟩
        have h3 := (Int.le_ediv_iff_mul_le hw).mpr h1
        have h4 : s / (k * a) < c + 1 := (Int.ediv_lt_iff_lt_mul hw).mpr (by rw [Int.add_mul, Int.one_mul]; exact h2)
        omega
    by_cases h : s / (k * a) = c
    · rw [beq_iff_eq.mpr h, decide_eq_true (key.mp h)]
    · rw [beq_eq_false_iff_ne.mpr h, decide_eq_false (mt key.mpr h)]
  rw [e, (hS.filter _).length_eq]
  have := (cov_T ha ns hx).count ha k (c * (k * a))
  rw [hn] at this
  exact this
end
end Mine
end

/- text L5 -/
section
open PySem PySem.W PyProof.Rows PySem.Calls PyProof.V PySem.Spec
set_option maxRecDepth 100000
namespace Mine
theorem rowI_len : ∀ n, (rowI n).length = n + 1
  | 0 => rfl
  | n + 1 => by simp [rowI, rowI_len n]
set_option maxHeartbeats 4000000 in
theorem law5 {w : World} {mean : ExcName → Option Value} {mg mb : Str → Option Value} {A : Around} {base h₀ : Heap} {L fa : Addr} {cd : Value} {s : Shared} {Q : Flow → Shared → Prop} {l r nb sm : Addr} {us ss : List Value} {e1 e2 : Nat} {c1 c2 c3 c4 c5 c6 : Obj}
    {t1 t2 t3 : Tok} {n : Nat} {kd sz : Int} {pi : Option Value} {v3 : Option Value}
    (B : Below A base [] h₀) (F : Fr h₀ L s.heap (lawM5 L fa cd l r nb n kd sz t1 t2 t3 pi)) (X : (Mine.hd.heap_39 w.params).In h₀) (T : Top PV PL mean mg mb h₀)
    (hh : A.handled = none) (hd : A.depth + 200 < recursionLimit)
    (N : News h₀ L s.heap [(sm, listOf ss.toArray e2), (nb, listOf us.toArray e1), (L + 6, c6), (L + 5, c5), (L + 4, c4), (L + 3, c3), (L + 2, c2), (L + 1, c1)])
    (l1 : @LT.lt Nat _ nb sm ∧ @LT.lt Nat _ (L + 6) nb) (hnb : Bnd n) (hc3 : c3.data = .cell v3)
    (k : ∀ h tk pi' ln lv e3 o3, (@LT.lt Nat _ nb ln ∧ @LT.lt Nat _ sm ln) → Fr h₀ L h (lawM5 L fa cd l r nb n kd sz t1 t2 t3 pi') → News h₀ L h [(ln, listOf lv.toArray e3), (sm, listOf ss.toArray e2), (nb, listOf us.toArray e1), (L + 6, c6), (L + 5, c5), (L + 4, c4), (L + 3, o3), (L + 2, c2), (L + 1, c1)] → o3.data = .cell (some (.ref ln)) → IntsAre lv (rowI n) →
      wpAny (model PP w) (A.deeper (lawEnv L fa cd)) (execs (lawFrom 10) (lawEnv L fa cd)) Q (fun _ _ => False) { s with heap := h, toks := tk }) :
    wpAny (model PP w) (A.deeper (lawEnv L fa cd)) (execs (lawFrom 8) (lawEnv L fa cd)) Q (fun _ _ => False) s := by
  w_top off
  have : PySem.Challenge.rw_dm5011_01 = PySem.Challenge.rw_dm5011_01 ∧ Mine.hd.heap_39 = Mine.hd.heap_39 := by k_fill; exact ⟨rfl, rfl⟩
  clear this
  have hB1 : lawSt 8 = lawSt 8 := rfl
  conv at hB1 => rhs; whnf
  have hB2 : lawSt 9 = lawSt 9 := rfl
  conv at hB2 => rhs; whnf
  have hS : lawScope = lawScope := rfl
  conv at hS => rhs; whnf
  rw [law_drop 8 (by decide), law_drop 9 (by decide), hB1, hB2]
  generalize lawFrom 10 = rest at k ⊢
  unfold lawM5 lawM0 lawEnv at *
  simp only [hS] at F ⊢
  clear hB1 hB2
  k_steps
  rename_i l2 _ l2f _ co3 _ _ d2 h2 tk2 ta tb tc hrg F2 N2 _
  obtain ⟨m1, hm1, F2a⟩ : ∃ m1 : Str → Option Value, m1 = _ ∧ Fr h₀ L h2 m1 := ⟨_, rfl, F2⟩
  clear F2
  refine range_loop (fun i m' news' => ∃ pi ln lv e o3, m' = (fun y => if y = Str.ofString "i" then pi else m1 y) ∧ (@LT.lt Nat _ nb ln ∧ @LT.lt Nat _ sm ln) ∧ news' = [(ln, listOf lv.toArray e), (sm, listOf ss.toArray e2), (nb, listOf us.toArray e1), (L + 6, c6), (L + 5, c5), (L + 4, c4), (L + 3, o3), (L + 2, c2), (L + 1, c1)] ∧ o3.data = .cell (some (.ref ln)) ∧ IntsAre lv (rowI i)) hh hrg (by unfold Bnd at hnb; omega) F2a N2 ⟨m1 (Str.ofString "i"), l2, [.int 1 s.toks], 0, co3, ?_, ⟨l2f.2.1, l2f.1⟩, rfl, d2, .cons _ _ .nil⟩ ?_ ?_
  · funext y; by_cases q : y = Str.ofString "i" <;> simp [q]
  · rintro i t m₁ news₁ h tk I o Q' hi ⟨pi, ln, lv, e, o3, rfl, ⟨g1, g2⟩, rfl, ho3, hlv⟩ hne F3 N3 next
    subst hm1
    clear N2 F2a hrg
    simp only [List.cons_append, List.nil_append] at N3
    have F3' : Fr h₀ L h _ := F3
    have N3' : News h₀ L h _ := N3
    clear F3 N3
    dsimp only at F3'
    have hI0 : @Ne Nat ln I := hne _ (.head _)
    have hI1 : @Ne Nat sm I := hne _ (.tail _ (.head _))
    have hI2 : @Ne Nat nb I := hne _ (.tail _ (.tail _ (.head _)))
    have hI3 : @Ne Nat (L + 6) I ∧ @Ne Nat (L + 5) I ∧ @Ne Nat (L + 4) I ∧ @Ne Nat (L + 3) I ∧ @Ne Nat (L + 2) I ∧ @Ne Nat (L + 1) I := ⟨hne _ (.tail _ (.tail _ (.tail _ (.head _)))), hne _ (.tail _ (.tail _ (.tail _ (.tail _ (.head _))))), hne _ (.tail _ (.tail _ (.tail _ (.tail _ (.tail _ (.head _)))))), hne _ (.tail _ (.tail _ (.tail _ (.tail _ (.tail _ (.tail _ (.head _))))))), hne _ (.tail _ (.tail _ (.tail _ (.tail _ (.tail _ (.tail _ (.tail _ (.head _)))))))), hne _ (.tail _ (.tail _ (.tail _ (.tail _ (.tail _ (.tail _ (.tail _ (.tail _ (.head _)))))))))⟩
    have hlen : lv.length = (rowI i).length := hlv.length
    have hlen2 : (rowI i).length = i + 1 := rowI_len i
    have hlb : lv.length ≤ 200 := by unfold Bnd at hnb; omega
    have hl1 : 1 ≤ lv.length := by omega
    clear hlen2
    k_steps
    rename_i l4 h4 F4 N4 l4f
    refine LCg.ListComp_U (F₀ := F4) (by with_unfolding_all rfl) (by decide) (by rfl) (by decide) (by rfl) ?_
    k_steps
    rename_i h6 tk6 ta' tb' tc' hrg6 F6 N6 _
    have en : ((rowI i).length : Int) - 1 = (((rowI i).length - 1 : Nat) : Int) := by omega
    rw [en] at hrg6
    have hlz : (rowI i).length - 1 ≤ 200 := by omega
    refine LCg.CompSrc.range (n := (rowI i).length - 1) hh F6 N6 hrg6 (small_n (by omega)) (by rw [rangeSize_nat]; omega) (by rw [sizeLine_eq]; omega) (fun g => ?_)
    refine rest_range (a := 0) (fun j => (rowI i)[j]! + (rowI i)[j + 1]!) ?_ ?_ _ 0 [] rfl (Nat.zero_le _) .nil
    · intro j t' I' oI C oC D oD m₂ h tk E' Q' hj hC hm F N q
      rw [Int.zero_add] at hm
      clear F6 N6 hrg6
      have hj' : j < (rowI i).length - 1 := hj
      have e1 : ∀ k, (rowI i).getD k 0 = (rowI i)[k]! := fun k => by simp [List.getD_eq_getElem?_getD, List.getElem!_eq_getElem?_getD]
      have e3 : ((j : Int) + 1).toNat = j + 1 := by omega
      clear hj
      have hj1 : (j : Int) < lv.length := by omega
      have hj2 : (j : Int) + 1 < lv.length := by omega
      have hj0 : (0 : Int) ≤ j := Int.natCast_nonneg j
      k_steps
      rw [Int.toNat_natCast, e3, e1, e1]
      exact q _ _
    · intro ys hys D h tk F N off
      have hyl : ys.length = (rowI i).length - 1 := by have := hys.length; simpa using this
      have hyb : ys.length ≤ 200 := by omega
      clear F6 N6 hrg6
      k_steps
      rename_i _ l7 h7 F7 N7 l7f h8 F8 N8
      have g3 : @LT.lt Nat _ sm h7.objs.size := Heap.lt_size (N7 _ (.tail _ (.tail _ (.tail _ (.tail _ (.tail _ (.head _))))))).1
      have g4 : @LT.lt Nat _ nb h7.objs.size := Heap.lt_size (N7 _ (.tail _ (.tail _ (.tail _ (.tail _ (.tail _ (.tail _ (.head _)))))))).1
      have g5 : @LT.lt Nat _ I h7.objs.size := Heap.lt_size (N7 _ (.tail _ (.tail _ (.tail _ (.tail _ (.tail _ (.tail _ (.tail _ (.tail _ (.tail _ (.tail _ (.tail _ (.tail _ (.tail _ (.head _))))))))))))))).1
      obtain ⟨lw, N9, hlw⟩ : ∃ lw : List Value, News h₀ L h8 [(h7.objs.size, listOf lw.toArray 0), (sm, listOf ss.toArray e2), (nb, listOf us.toArray e1), (L + 6, c6), (L + 5, c5), (L + 4, c4), (L + 3, o3), (L + 2, c2), (L + 1, c1), (I, o)] ∧ IntsAre lw (rowI (i + 1)) := by
        have h0 := N8 _ (.head _)
        refine ⟨[Value.int 1 ?ta] ++ ys ++ [Value.int 1 ?tb], ?n1, ?n2⟩
        case n1 =>
          intro q hq
          rcases List.mem_cons.mp hq with rfl | hq
          · exact h0
          · exact N8 _ (.tail _ (.tail _ (.tail _ (.tail _ (.tail _ (.tail _ hq))))))
        case n2 => exact ((IntsAre.cons 1 _ .nil).append hys).append (.cons 1 _ .nil)
      have F9 : Fr h₀ L h8 _ := F8
      clear F8 N8 N7 F7 hys l7f
      dsimp only
      generalize h7.objs.size = ln' at N9 g3 g4 g5 ⊢
      k_steps
      rename_i h10 o3' F10 N10 d10
      refine next h10 _ _ [(ln', listOf lw.toArray 0), (sm, listOf ss.toArray e2), (nb, listOf us.toArray e1), (L + 6, c6), (L + 5, c5), (L + 4, c4), (L + 3, o3'), (L + 2, c2), (L + 1, c1)] F10 N10 (fun p hp => ?_) ⟨some (.int i t), ln', lw, 0, o3', ?_, ⟨g4, g3⟩, rfl, d10, hlw⟩
      · simp only [List.mem_cons, List.not_mem_nil, or_false] at hp
        rcases hp with rfl | rfl | rfl | rfl | rfl | rfl | rfl | rfl | rfl
        · exact Nat.ne_of_gt g5
        · exact hI1
        · exact hI2
        · exact hI3.1
        · exact hI3.2.1
        · exact hI3.2.2.1
        · exact hI3.2.2.2.1
        · exact hI3.2.2.2.2.1
        · exact hI3.2.2.2.2.2
      · funext y; by_cases q : y = Str.ofString "i" <;> simp [q]
  · rintro h' tk' m' news' F' N' ⟨pi, ln, lv, e, o3, rfl, ⟨g1, g2⟩, rfl, ho3, hlv⟩
    subst hm1
    refine k h' tk' pi ln lv e o3 ⟨g1, g2⟩ ?_ N' ho3 hlv
    have e5 : ∀ (a : Option Value) (f : Str → Option Value), (fun y => if y = Str.ofString "i" then pi else (fun y => if y = Str.ofString "i" then a else f y) y) = fun y => if y = Str.ofString "i" then pi else f y := fun a f => by funext y; by_cases q : y = Str.ofString "i" <;> simp [q]
    rw [e5] at F'
    exact F'
end Mine
end

/- text G2 -/
section
open PySem PySem.W PyProof.Rows PySem.Calls PyProof.V PySem.Spec
set_option maxRecDepth 100000
namespace Mine
local macro_rules | `(tactic| walk_at "eval Dict nil nil") => `(tactic| (k_here; k_dflt (refine' newDict_KL ?k1 ?k2 (TopRead.nolimit (by k_asm)) ?_; (case k1 => k_asm); (case k2 => k_asm); k_whole); intro d' h' o' F' N' l1 lo' hs' fs' hi' fi'; (try k_lt l1); (try k_sweep)))
set_option maxHeartbeats 4000000 in
theorem times_callG {w : World} {mean : ExcName → Option Value} {mg mb : Str → Option Value} {A A₀ : Around} {env : Env} {outer : List Env} {base h₀ : Heap} {L : Addr} {m : Str → Option Value} {s : Shared} {Q E : Value → Shared → Prop}
    {l : Addr} {vs : List Value} {ns : List Int}
    (B : Below A₀ base outer h₀) (F : Fr h₀ L s.heap m) (X : (Mine.hd.heap_39 w.params).In h₀) (T : Top PV PL mean mg mb h₀) (hA : A.frames = some (env :: outer)) (hf : env.frame = some L) (hke : env.scope.kind = .function) (hh : A.handled = none) (hd : A.depth + 20 < recursionLimit)
    (hl : s.heap.IsList l vs.toArray) (hi : IntsAre vs ns) (hn : ns.length ≤ 1024)
    (ret : ∀ d o kvs h' tk', s.heap.StaysIn h' → s.heap.objs.size < d → h'.get? d = some o → s.heap.get? d = none → (d == sysModules) = false → o.IsDictOf (intKind PP w) kvs → FlatPairs PyData.int kvs (kdfD (tally ns)) →
      Q (.ref d) { s with heap := h', toks := tk' }) :
    wpAny (model PP w) A (call (.ref 309) [.ref l]) Q E s := by
  w_top off
  have : PySem.Challenge.rw_dm5011_01 = PySem.Challenge.rw_dm5011_01 ∧ Mine.hd.heap_39 = Mine.hd.heap_39 := by k_fill; exact ⟨rfl, rfl⟩
  clear this
  obtain ⟨Ah, Ad, Af, Ag, Au⟩ := A
  dsimp only at hA hh hd
  subst hA hh
  refine wpAny_call ?_
  k_dflt (refine' callS B F X T rfl hf hke ?k6 ?k7 ?k8 ?k9 ?kB ?_ ?c2 ?c3 ?c4 ?c5; (case k6 => k_is); (case k7 => k_is); (case k8 => exact Nat.lt_of_le_of_lt (Nat.le_add_right _ _) hd); (case k9 => exact BindsTo.of_eq rfl); (case c5 => exact rfl); (case kB => exact locs rfl); (case c2 => decide); (case c3 => exact rfl); (case c4 => exact rfl))
  intro L' h' F' eL' N' B' X' T'
  dsimp only
  clear B F X T
  try k_fold
  k_steps
  all_goals (
    dsimp only
    refine ret _ _ _ _ _ (fun b o e => Fr.keep (by assumption) b o e) ?_ (News.get (by assumption) (.head _)) (News.fresh (by assumption) (.head _)) (by assumption) (by assumption) (by assumption)
    omega)
end Mine
end

/- text G3 -/
section
open PySem PySem.W PyProof.V PySem.Spec
namespace Mine
theorem lookup_kdfD : ∀ {c : List (Int × Int)} {k v : Int}, c.find? (fun p => decide (p.1 = k)) = some (k, v) → PySem.Spec.lookup (PyData.int k) (kdfD c) = some (PyData.int v)
  | [], k, v, h => by simp at h
  | p :: c, k, v, h => by
    rw [List.find?_cons] at h
    show PySem.Spec.lookup (PyData.int k) ((PyData.int p.1, PyData.int p.2) :: kdfD c) = _
    unfold PySem.Spec.lookup
    by_cases q : p.1 = k
    · simp only [q, decide_true] at h
      obtain rfl := Option.some.inj h
      simp [same_int]
    · simp only [q, decide_false] at h
      have := lookup_kdfD h
      simp [same_int, q, this]
theorem first_mem {ns : List Int} {k : Int} {i : Nat} (h : ((tally ns)[i]?.map (·.1)) = some k) : (tally ns).find? (fun p => decide (p.1 = k)) = some (k, (ns.count k : Int)) := by
  obtain ⟨⟨k', v⟩, h1, h2⟩ := Option.map_eq_some_iff.mp h
  have hm := List.mem_of_getElem? h1
  have e : k' = k := h2
  subst e
  have := ((tally_cnt ns).mem _ _).mp hm
  rw [this.2] at hm
  exact find_key (tally_cnt ns).nodup hm
end Mine
end

/- text G4 -/
section
open PySem PySem.W PyProof.Rows PyProof.V PySem.Spec
set_option maxRecDepth 100000
namespace Mine
section
variable {prog : Program} {w : World} {A : Around} {E : Value → Shared → Prop} {s : Shared}
/-- max of an exact dict's values, all numbers -/
theorem max_dict {v d : Addr} {o ov : Obj} {kvs : List (Int × Value)} {c : List (Int × Int)} {Q : Value → Shared → Prop} (hh : A.handled = none) (hv : s.heap.get? v = some ov) (hv1 : ov.cls = .type "dict_values") (hv2 : ov.data = .fields #[.ref d]) (hd : s.heap.get? d = some o) (hdi : o.IsDictOf (intKind prog w) kvs) (hfl : FlatPairs PyData.int kvs (kdfD c)) (hn : 0 < c.length)
    (hq : ∀ h' tk' mx t, s.heap.StaysIn h' → (∃ i, i < c.length ∧ (c[i]!).2 = mx) → (∀ j, j < c.length → (c[j]!).2 ≤ mx) → Q (.int mx t) { s with heap := h', toks := tk' }) :
    wpAny (model prog w) A (call (.builtin "max") [.ref v]) Q E s := by
  have hlen : kvs.length = c.length := by have := hfl.length; rw [kdfD_length] at this; exact this.symm
  have hval : ∀ (i : Nat) (k : Int) (x : Value), kvs[i]? = some (k, x) → ∃ t, x = Value.int (c[i]!).2 t := fun i k x e => by
    obtain ⟨dv, e1, e2⟩ := hfl.at e
    unfold kdfD at e1
    rw [List.getElem?_map] at e1
    obtain ⟨p, e3, e4⟩ := Option.map_eq_some_iff.mp e1
    obtain ⟨_, rfl⟩ := Prod.mk.inj e4
    obtain ⟨t, rfl⟩ := e2.int_inv
    exact ⟨t, by rw [List.getElem!_eq_getElem?_getD, e3]; rfl⟩
  obtain ⟨ep, hat⟩ := KdkAt.of hdi
  have hda := hat.dictAt hd
  refine call_max_walk (wpAny_pyIter_values (knd := intKind prog w) ⟨ov, hv, hv1, hv2⟩ hda ?_)
  have hdI : d ≠ s.heap.objs.size := Nat.ne_of_lt (Heap.lt_size hd)
  refine ⟨s.heap.objs.size, [s.heap.objs.size, d], [s.heap.objs.size], kvs.length, _, _, fun i j => decide ((c[i]!).2 > (c[j]!).2), rfl, Walks.dictValues (knd := intKind prog w) (A := A.in1) hh _ d hdI kvs ep, ⟨⟨_, Heap.get?_push_size _ rfl, rfl, rfl⟩, hda.push _⟩, ?_, by rw [hlen]; exact hn, ?_, ?_⟩
  · intro b hb
    show b < (s.heap.push _).objs.size
    rw [Heap.size_push]
    rcases List.mem_cons.mp hb with rfl | hb
    · exact Nat.lt_succ_self _
    · rw [List.mem_singleton.mp hb]; exact Nat.lt_succ_of_lt (Heap.lt_size hd)
  · rintro i j vi vj s' Q' E' ⟨k1, e1⟩ ⟨k2, e2⟩ q
    obtain ⟨t, rfl⟩ := hval i _ _ e1
    obtain ⟨u, rfl⟩ := hval j _ _ e2
    exact (show wpAny _ _ (compareOp .Gt _ _) _ _ _ from PyProof.Rows.gt_int q)
  · rintro vv h' tk' ⟨k1, e1⟩ hk
    obtain ⟨t, rfl⟩ := hval _ _ _ e1
    obtain ⟨b1, b2⟩ := argBest_gt (fun i => (c[i]!).2) (kvs.length - 1)
    exact hq h' tk' _ t (fun b o e => hk b o (fun z => by
      rw [List.mem_singleton] at z
      have := Heap.lt_size e
      rw [z] at this; exact Nat.lt_irrefl _ this) (Heap.get?_push_of_some _ e)) ⟨_, by omega, rfl⟩ fun j hj => b2 j (by omega)
end
end Mine
end

/- text G1 -/
section
open PySem PySem.W PyProof.Rows PySem.Calls PyProof.V PySem.Spec
set_option maxRecDepth 100000
namespace Mine
set_option maxHeartbeats 4000000 in
theorem cells_call {w : World} {mean : ExcName → Option Value} {mg mb : Str → Option Value} {A A₀ : Around} {env : Env} {outer : List Env} {base h₀ : Heap} {L : Addr} {m : Str → Option Value} {s : Shared} {Q E : Value → Shared → Prop} {l : Addr} {vs : List Value} {ns : List Int} {wd bd : Int} {t1 t2 : Tok}
    (B : Below A₀ base outer h₀) (F : Fr h₀ L s.heap m) (X : (Mine.hd.heap_39 w.params).In h₀) (T : Top PV PL mean mg mb h₀) (XB : (Mine.hd.heap_39 w.params).In base) (TB : Top PV PL mean mg mb base)
    (hA : A.frames = some (env :: outer)) (hf : env.frame = some L) (hke : env.scope.kind = .function) (hh : A.handled = none) (hd : A.depth + 110 < recursionLimit)
    (hl : s.heap.IsList l vs.toArray) (hi : IntsAre vs ns) (hn : vs.length ≤ 1024) (h1 : 1 ≤ vs.length) (hw : 0 < wd) (hb : ∀ c, ((ns.map fun x => x.fdiv wd).count c : Int) ≤ bd)
    (ret : ∀ h' tk', Tn (frs (env :: outer)) s.heap h' → Q (.bool true) { s with heap := h', toks := tk' }) :
    wpAny (model PP w) A (call (.ref 314) [.ref l, .int wd t1, .int bd t2]) Q E s := by
  w_top off
  have : PySem.Challenge.rw_dm5011_01 = PySem.Challenge.rw_dm5011_01 ∧ Mine.hd.heap_39 = Mine.hd.heap_39 := by k_fill; exact ⟨rfl, rfl⟩
  clear this
  refine wpAny_call ?_
  k_dflt (refine' callSC B F X T hA hf hke ?k6 ?k7 ?k8 ?k9 ?kB ?kN ?_ ?c3 ?c4 ?c5; (case k6 => k_is); (case k7 => k_is); (case k8 => exact Nat.lt_of_le_of_lt (Nat.le_add_right _ _) hd); (case k9 => exact kp_binds (binds := [(Str.ofString "sums", .ref l), (Str.ofString "width", .int wd t1), (Str.ofString "bound", .int bd t2)]) (X.keeps F.keep) (fun _ => rfl)); (case c5 => exact rfl); (case kB => rfl); (case kN => decide +kernel); (case c3 => exact rfl); (case c4 => exact rfl))
  intro L' h' tk' cells F' eL' N' Y' B' X' T'
  have Y2 : CellsAre (fun y => if y = Str.ofString "width" then some (.int wd t1) else none) [(Str.ofString "width", L' + 1)] cells := Y'
  obtain ⟨co, rfl, hco⟩ := Y2.one
  clear Y' Y2
  dsimp only
  clear B F X T
  try k_fold
  have hco' : co.data = .cell (some (.int wd t1)) := hco
  clear hco
  k_steps
  refine LCg.CompSrc.base hh F' N' hl (by rw [List.size_toArray, sizeLine_eq]; omega) (fun g => ?_)
  refine rest_map (ns := ns) (fun n => n.fdiv wd) (by simpa using hi) (.inl hl) ?_ ?_ _ 0 [] rfl (Nat.zero_le _) .nil
  · intro n t I oI C oC D oD m₂ h tk E' Q' hC hm F N q
    k_steps
    refine floordiv_int (by omega) (q _ _) (.inr (PySem.PylongRoom.of (T'.nolimit.keeps F.keep) (show A.depth + 1 + 100 < recursionLimit from by omega)))
  · intro ys hys
    intro D h tk F N off
    k_steps
    have hyl : ys.length = vs.length := by rw [hys.length, List.length_map, ← hi.length]
    have hDl : h.IsList D ys.toArray := ⟨_, (N _ (.head _)).1, rfl, _, rfl⟩
    refine times_callG B' F X' T' (deeper_frames hA) rfl rfl hh (show A.depth + 1 + 20 < recursionLimit from by omega) hDl hys (by rw [List.length_map, ← hi.length]; exact hn) ?_
    intro d1 o1 kvs h4 tk4 st4 lt4 ho1 hn1 hd1 hdi hfl
    have F4 := PyProof.Rows.Fr.kept F st4
    have hdf := kdx_fresh F (Nat.le_of_lt lt4)
    have N4 : News s.heap L' h4 [(d1, o1), (D, LCg.lst ys), (L' + 1, co)] := fun q hq => by
      rcases List.mem_cons.mp hq with rfl | hq
      · exact ⟨ho1, hdf.1, hdf.2⟩
      · exact ⟨st4 _ _ (N q hq).1, (N q hq).2⟩
    clear F N st4 hDl
    k_steps
    rename_i D6 c6 h6 F6 N6 l6
    have hl6 : h6.IsList D6 ys.toArray := ⟨_, (N6 _ (.head _)).1, rfl, _, rfl⟩
    refine mode_call (ns := ns.map fun n => n.fdiv wd) B' F6 X' T' XB TB (deeper_frames hA) rfl rfl hh (show A.depth + 1 + 6 < recursionLimit from by omega) hl6 hys (by omega) (by omega) ?_
    intro h7 tk7 k7 t7 Tn7 hfm
    obtain ⟨g8, KT8, F8, B8⟩ := reground B' F6 rfl Tn7
    have N8 := Mine.News.turn B' rfl N6 Tn7 KT8
    have X8 := XB.keeps B8.stays
    have T8 := TB.keeps B8.stays
    clear B' F6 N6 X' T'
    k_steps
    rename_i h9 F9 N9
    obtain ⟨i7, hfm1, hfm2⟩ := hfm
    obtain ⟨v9, hv9, hf9⟩ := FlatPairs.of_lookup same_int hfl (lookup_kdfD (first_mem hfm2))
    obtain ⟨u9, rfl⟩ := hf9.int_inv
    refine kdt_getItem (knd := intKind _ _) (k := k7) N9 (.tail _ (.head _)) hdi (intKind_is _ _ _ _) hv9 ?_
    k_steps
    rename_i D10 h10 F10 N10 l10
    have hpos : 0 < (tally (ns.map fun n => n.fdiv wd)).length := Nat.pos_of_ne_zero fun q => tally_ne (ns := ns.map fun n => n.fdiv wd) (fun z => by
      rw [List.map_eq_nil_iff] at z
      have h0 : vs.length = ns.length := hi.length
      rw [h0, z] at h1
      exact absurd h1 (by decide)) (List.eq_nil_of_length_eq_zero q)
    refine max_dict (c := tally (ns.map fun n => n.fdiv wd)) hh (N10 _ (.head _)).1 rfl rfl (N10 _ (.tail _ (.tail _ (.head _)))).1 hdi hfl hpos ?_
    intro h11 tk11 mx t11 st11 hm1 hm2
    have F11 := PyProof.Rows.Fr.kept F10 st11
    have N11 : News g8 L' h11 _ := fun q hq => ⟨st11 _ _ (N10 q hq).1, (N10 q hq).2⟩
    clear F10 N10 st11
    have hmx : ((ns.map fun n => n.fdiv wd).count k7 : Int) = mx := by
      obtain ⟨i, hi1, hi2⟩ := hm1
      obtain ⟨p, hp, rfl⟩ := Option.map_eq_some_iff.mp hfm2
      have hpc := ((tally_cnt _).mem _ _).mp (List.mem_of_getElem? hp)
      have h7i : i7 < (tally (ns.map fun n => n.fdiv wd)).length := (List.getElem?_eq_some_iff.mp hp).1
      have h7e : (tally (ns.map fun n => n.fdiv wd))[i7]! = p := by rw [List.getElem!_eq_getElem?_getD, hp]; rfl
      have hle := hm2 i7 h7i
      rw [h7e, hpc.2] at hle
      refine Int.le_antisymm hle ?_
      have := hfm1.2 i (by simpa using hi1)
      have e1 : ((tally (ns.map fun n => n.fdiv wd)).map (·.2))[i]! = mx := by
        rw [List.getElem!_eq_getElem?_getD, List.getElem?_map, List.getElem?_eq_getElem hi1]
        rw [List.getElem!_eq_getElem?_getD, List.getElem?_eq_getElem hi1] at hi2
        exact hi2
      have e2 : ((tally (ns.map fun n => n.fdiv wd)).map (·.2))[i7]! = p.2 := by
        rw [List.getElem!_eq_getElem?_getD, List.getElem?_map, hp]; rfl
      rw [e1, e2, hpc.2] at this
      rcases this with z | ⟨z, _⟩
      · exact Int.le_of_lt z
      · exact Int.le_of_eq z
    k_steps
    · refine kdt_getItem (knd := intKind _ _) (k := k7) N11 (.tail _ (.tail _ (.head _))) hdi (intKind_is _ _ _ _) hv9 ?_
      k_steps
      rw [decide_eq_true (hb k7)]
      dsimp only
      exact ret _ _ ((Tn.of_turn KT8).trans (Tn.of_stays F11.keep))
    · contradiction
end Mine
end

/- text L6 -/
section
open PySem PySem.W PyProof.Rows PySem.Calls PyProof.V PySem.Spec
set_option maxRecDepth 100000
namespace Mine
set_option maxHeartbeats 4000000 in
theorem law6 {w : World} {mean : ExcName → Option Value} {mg mb : Str → Option Value} {A : Around} {base h₀ : Heap} {L fa : Addr} {cd : Value} {s : Shared} {Q : Flow → Shared → Prop} {l r nb sm ln : Addr} {us ss lv : List Value} {e1 e2 e3 : Nat} {c1 c2 c3 c4 c5 c6 : Obj}
    {t1 t2 t3 : Tok} {n : Nat} {kd sz : Int} {pi : Option Value} {v4 v5 : Option Value} {S : List Int}
    (B : Below A base [] h₀) (F : Fr h₀ L s.heap (lawM5 L fa cd l r nb n kd sz t1 t2 t3 pi)) (X : (Mine.hd.heap_39 w.params).In h₀) (T : Top PV PL mean mg mb h₀)
    (hh : A.handled = none) (hd : A.depth + 200 < recursionLimit)
    (N : News h₀ L s.heap [(ln, listOf lv.toArray e3), (sm, listOf ss.toArray e2), (nb, listOf us.toArray e1), (L + 6, c6), (L + 5, c5), (L + 4, c4), (L + 3, c3), (L + 2, c2), (L + 1, c1)])
    (l1 : @LT.lt Nat _ nb sm ∧ @LT.lt Nat _ (L + 6) nb ∧ @LT.lt Nat _ sm ln) (hc1 : c1.data = .cell (some (.ref sm))) (hc4 : c4.data = .cell v4) (hc5 : c5.data = .cell v5) (hss : IntsAre ss S) (hsl : ss.length ≤ 1024) (hs1 : 1 ≤ ss.length)
    (k : ∀ h tk d1 o1 kvs o4 o5 mx tm, @LT.lt Nat _ ln d1 → (d1 == sysModules) = false → Fr h₀ L h (lawM5 L fa cd l r nb n kd sz t1 t2 t3 pi) → News h₀ L h [(d1, o1), (ln, listOf lv.toArray e3), (sm, listOf ss.toArray e2), (nb, listOf us.toArray e1), (L + 6, c6), (L + 5, o5), (L + 4, o4), (L + 3, c3), (L + 2, c2), (L + 1, c1)] → o4.data = .cell (some (.ref d1)) → o5.data = .cell (some (.int mx tm)) →
      o1.IsDictOf (intKind PP w) kvs → FlatPairs PyData.int kvs (kdfD (tally S)) → (∃ i, i < (tally S).length ∧ ((tally S)[i]!).2 = mx) → (∀ j, j < (tally S).length → ((tally S)[j]!).2 ≤ mx) →
      wpAny (model PP w) (A.deeper (lawEnv L fa cd)) (execs (lawFrom 12) (lawEnv L fa cd)) Q (fun _ _ => False) { s with heap := h, toks := tk }) :
    wpAny (model PP w) (A.deeper (lawEnv L fa cd)) (execs (lawFrom 10) (lawEnv L fa cd)) Q (fun _ _ => False) s := by
  w_top off
  have : PySem.Challenge.rw_dm5011_01 = PySem.Challenge.rw_dm5011_01 ∧ Mine.hd.heap_39 = Mine.hd.heap_39 := by k_fill; exact ⟨rfl, rfl⟩
  clear this
  have hB1 : lawSt 10 = lawSt 10 := rfl
  conv at hB1 => rhs; whnf
  have hB2 : lawSt 11 = lawSt 11 := rfl
  conv at hB2 => rhs; whnf
  have hS : lawScope = lawScope := rfl
  conv at hS => rhs; whnf
  rw [law_drop 10 (by decide), law_drop 11 (by decide), hB1, hB2]
  generalize lawFrom 12 = rest at k ⊢
  unfold lawM5 lawM0 lawEnv at *
  simp only [hS] at F ⊢
  clear hB1 hB2
  k_steps
  have hsmL : s.heap.IsList sm ss.toArray := ⟨_, (N _ (.tail _ (.head _))).1, rfl, _, rfl⟩
  have hSl : ss.length = S.length := hss.length
  refine times_callG (ns := S) B F X T (deeper_frames B.stack) rfl rfl hh (show A.depth + 1 + 20 < recursionLimit from by omega) hsmL hss (by omega) ?_
  intro d1 o1 kvs h2 tk2 st2 lt2 ho1 hn1 hd1 hdi hfl
  have F2 := PyProof.Rows.Fr.kept F st2
  have hdf := kdx_fresh F (Nat.le_of_lt lt2)
  have g0 : @LT.lt Nat _ ln d1 := Nat.lt_trans (Heap.lt_size (N _ (.head _)).1) lt2
  have N2 : News h₀ L h2 [(d1, o1), (ln, listOf lv.toArray e3), (sm, listOf ss.toArray e2), (nb, listOf us.toArray e1), (L + 6, c6), (L + 5, c5), (L + 4, c4), (L + 3, c3), (L + 2, c2), (L + 1, c1)] := fun q hq => by
    rcases List.mem_cons.mp hq with rfl | hq
    · exact ⟨ho1, hdf.1, hdf.2⟩
    · exact ⟨st2 _ _ (N q hq).1, (N q hq).2⟩
  have hl1 : @LT.lt Nat _ (L + 6) d1 ∧ @LT.lt Nat _ sm d1 ∧ @LT.lt Nat _ nb d1 := ⟨Nat.lt_trans l1.2.1 (Nat.lt_trans l1.1 (Nat.lt_trans l1.2.2 g0)), Nat.lt_trans l1.2.2 g0, Nat.lt_trans l1.1 (Nat.lt_trans l1.2.2 g0)⟩
  clear F N st2 hsmL
  k_steps
  rename_i o4 _ _ d4 D5 h5 F5 N5 l5
  have hpos : 0 < (tally S).length := Nat.pos_of_ne_zero fun q => tally_ne (ns := S) (fun z => by
    rw [hSl, z] at hs1
    exact absurd hs1 (by decide)) (List.eq_nil_of_length_eq_zero q)
  refine max_dict (c := tally S) hh (N5 _ (.head _)).1 rfl rfl (N5 _ (.tail _ (.head _))).1 hdi hfl hpos ?_
  intro h6 tk6 mx tm st6 hm1 hm2
  have F6 := PyProof.Rows.Fr.kept F5 st6
  have N6 : News h₀ L h6 [(d1, o1), (ln, listOf lv.toArray e3), (sm, listOf ss.toArray e2), (nb, listOf us.toArray e1), (L + 6, c6), (L + 5, c5), (L + 4, o4), (L + 3, c3), (L + 2, c2), (L + 1, c1)] := fun q hq => ⟨st6 _ _ (N5 q (.tail _ hq)).1, (N5 q (.tail _ hq)).2⟩
  clear F5 N5 st6 l5
  k_steps
  rename_i h8 o5 F8 N8 d8
  exact k h8 _ d1 o1 kvs o4 o5 mx tm g0 hd1 F8 N8 d4 d8 hdi hfl hm1 hm2
end Mine
end

/- text L7a -/
section
open PySem PySem.W PyProof.Rows PySem.Calls PyProof.V PySem.Spec PyProof.Rows.LCg PyProof.Rows.LCt
set_option maxRecDepth 100000
namespace Mine
section
variable {prog : Program} {w : World} {A : Around} {E : Value → Shared → Prop} {s : Shared} {h₀ : Heap} {L : Addr} {m : Str → Option Value} {env : Env}
/-- y = [.. for x in d if ..], d a dict of the ledger -/
theorem assign_comp_dict {ct elt iter : Expr} {x y : Str} {px py : Pos} {scope : Scope} {cl : List (Str × Addr)} {pos spos : Pos} {Q : Flow → Shared → Prop} {d : Addr} {o : Obj} {K : Type} [DecidableEq K] {knd : PySem.KeyKind prog w K} {kvs : List (K × Value)} {news : List (Addr × Obj)}
    (hLe : env.locals = L)
    (hsw : swapsWith (.ListComp elt [⟨.Name x px, iter, [ct], 0⟩] scope pos) (some (.Name y py)) spos.line env = pure true)
    (hclos : closureFor scope env = pure cl) (hcell : ∀ z ∈ scope.names, z.2 ≠ .cell) (hkind : scope.kind = .function)
    (hnames : ∀ z ∈ scope.names, z.2 = .local → scope.names.lookup z.1 = some .local) (hx : scope.names.lookup x = some .local)
    (hy : env.kindOf y = some .local) (hp : (env.scope.kind == .class || (env.scope.kind == .module && env.locals != env.globals)) = false)
    (hh : A.handled = none) (hds : (d == sysModules) = false) (hdi : o.IsDictOf knd kvs) (hdm : (d, o) ∈ news) (hsz : kvs.length ≤ sizeLine)
    (F : Fr h₀ L s.heap m) (N : News h₀ L s.heap news)
    (it : ∀ Q' : Value → Shared → Prop, Q' (.ref d) s → wpAny (model prog w) A (eval iter env) Q' E s)
    (R : ∀ g, CompRestT prog w A h₀ L m env ct elt x scope cl { s with heap := g } (fun nw => (d, o) ∈ nw) (fun i v => ∃ k xv, kvs[i]? = some (k, xv) ∧ knd.is k v = true) (FinA h₀ L m { s with heap := g } y Q) kvs.length 0 [] news)
    (hs : ∀ x, foldedSetIterable iter env x = pure x := by intro _; rfl) :
    wpAny (model prog w) A (exec (.Assign [.Name y py] (.ListComp elt [⟨.Name x px, iter, [ct], 0⟩] scope pos) spos) env) Q E s := by
  subst hLe
  obtain ⟨ep, hat⟩ := KdkAt.of hdi
  have hdh := (N _ hdm).1
  have hda := hat.dictAt hdh
  have hdI : d ≠ s.heap.objs.size := Nat.ne_of_lt (Heap.lt_size hdh)
  rw [exec_Assign_Name_used _ _ _ _ hsw]
  refine wpAny_bind (wpAny_standAt (wpAny_bind ?_))
  show wpAny _ A (do let _ ← comprehension (.ListComp elt [⟨.Name x px, iter, [ct], 0⟩] scope pos) scope env _ (newList []) false (eval iter env) (some (assign (.Name y py) env))) _ _ s
  refine wpAny_bind (wpAny_mono (wpAny_comprehension_free (use := some (assign (.Name y py) env)) (Q := fun _ s' => Q .next s') rfl hs hclos hkind hnames (it _ ?_)) (fun _ s' hq => wpAny_pure (wpAny_pure hq)) fun _ _ e => e)
  refine wpAny_pyIter_dict hds hda ?_
  refine block_T (Walks.dictKeys (knd := knd) hh s.heap.objs.size d hdI kvs ep) hsz (fun i h st => by obtain ⟨o', e, _⟩ := st.1; exact ⟨o', e⟩) (fun i h h' o' nw st e e' _ Nw hS => ⟨st.1.at fun o2 q => by rw [e] at q; rw [← Option.some.inj q]; exact e', hat.dictAt (Nw _ hS).1⟩) hcell hkind hx
    ⟨⟨_, Heap.get?_push_size _ rfl, rfl, rfl⟩, hda.push _⟩ (fun b hb => ?_) (F.push _) (N.grown fun b o e => Heap.get?_push_of_some _ e) (Nat.ne_of_lt F.ns.lt) (next_is_new F) (fun p hp => Nat.ne_of_lt (Heap.lt_size (N p hp).1)) hdm (R _) ?_
  · show b < (s.heap.push _).objs.size
    rw [Heap.size_push]
    rcases List.mem_cons.mp hb with rfl | hb
    · exact Nat.lt_succ_self _
    · rw [List.mem_singleton.mp hb]; exact Nat.lt_succ_of_lt (Heap.lt_size hdh)
  · intro D C h' tk m' ys news' F' N' o1 hn hC₀ hD₀ hCL hDL hCD offC fin
    show wpAny _ A (assign (.Name y py) env (.ref D)) _ _ _
    refine wpAny_assign_Name (wpAny_storeName_local hy F'.ns (fun h₂ hn₂ hs₂ => ?_) hp)
    refine ⟨m', hn.sameBut hs₂ hCL, fun h'' hs'' => fin D h'' _ ((F'.set hn₂ hs₂).change hs'' hCL hC₀) (fun p hp => ?_) o1⟩
    have z := N'.set hs₂ p hp
    refine ⟨hs''.extBut _ _ ?_ z.1, z.2⟩
    rcases List.mem_cons.mp hp with rfl | hp
    · exact Ne.symm hCD
    · exact offC p hp
/-- what a test leaves of numbers -/
theorem rest_filter {ct elt : PySem.Expr} {x : Str} {scope : Scope} {cl : List (Str × Addr)} {s : Shared} {S : List (Addr × Obj) → Prop} {P : Nat → Value → Prop} {Fin : List Value → List (Addr × Obj) → Prop} {news : List (Addr × Obj)} {xs : List Int} (p : Int → Bool)
    (hP : ∀ i v, P i v → ∃ t, v = .int xs[i]! t) (hS : S news)
    (test : ∀ i t I oI C oC D oD m₂ h tk (E' : Value → Shared → Prop) (Q' : Bool → Shared → Prop), i < xs.length → LCg.NsObj oC m₂ → m₂ x = some (.int xs[i]! t) → Fr h₀ L h m → News h₀ L h ((I, oI) :: (C, oC) :: (D, oD) :: news) → (∀ tk', Q' (p xs[i]!) { s with heap := h, toks := tk' }) →
      wpAny (model prog w) A (isTrue ct (compEnvC scope cl C env) (eval ct (compEnvC scope cl C env))) Q' E' { s with heap := h, toks := tk })
    (eltv : ∀ i t I oI C oC D oD m₂ h tk (E' : Value → Shared → Prop) (Q' : Value → Shared → Prop), i < xs.length → LCg.NsObj oC m₂ → m₂ x = some (.int xs[i]! t) → Fr h₀ L h m → News h₀ L h ((I, oI) :: (C, oC) :: (D, oD) :: news) → (∀ tk', Q' (.int xs[i]! t) { s with heap := h, toks := tk' }) →
      wpAny (model prog w) A (eval elt (compEnvC scope cl C env)) Q' E' { s with heap := h, toks := tk })
    (fin : ∀ ys, IntsAre ys (xs.filter p) → Fin ys news) :
    ∀ k i ys, xs.length - i = k → i ≤ xs.length → IntsAre ys ((xs.take i).filter p) → CompRestT prog w A h₀ L m env ct elt x scope cl s S P Fin k i ys news := by
  intro k
  induction k with
  | zero =>
    intro i ys hk hle hys
    refine CompRestT.zero (fin ys ?_)
    rwa [List.take_of_length_le (by omega)] at hys
  | succ k ih =>
    intro i ys hk hle hys
    refine CompRestT.succ fun v I oI C oC D m₂ h tk E' hv hC hm F N off ne => ?_
    have hlt : i < xs.length := by omega
    obtain ⟨t, rfl⟩ := hP i v hv
    have e1 : (xs.take (i + 1)).filter p = (xs.take i).filter p ++ if p xs[i]! then [xs[i]!] else [] := by
      rw [List.take_add_one, List.getElem?_eq_getElem hlt, Option.toList_some, List.filter_append, getElem!_pos xs i hlt]
      by_cases q : p xs[i] <;> simp [q]
    refine test i t I oI C oC D _ m₂ h tk E' _ hlt hC hm F N fun tk' => ?_
    by_cases q : p xs[i]! = true
    · rw [if_pos q]
      rw [if_pos q] at e1
      refine eltv i t I oI C oC D _ m₂ h tk' E' _ hlt hC hm F N fun tk'' => ?_
      exact ⟨h, tk'', news, rfl, F, N, off, hS, ih (i + 1) _ (by omega) (by omega) (e1 ▸ hys.append (.cons _ _ .nil))⟩
    · rw [if_neg q]
      rw [if_neg q, List.append_nil] at e1
      exact ⟨h, tk', news, rfl, F, N, off, hS, ih (i + 1) _ (by omega) (by omega) (e1 ▸ hys)⟩
end
end Mine
end

/- text L7 -/
section
open PySem PySem.W PyProof.Rows PySem.Calls PyProof.V PySem.Spec
set_option maxRecDepth 100000
namespace Mine
noncomputable abbrev lawM7 (L fa : Addr) (cd : Value) (l r nb : Addr) (n : Int) (kd sz : Int) (t1 t2 t3 : Tok) (pi : Option Value) (du : Addr) : Str → Option Value := fun y => if y = Str.ofString "due" then some (.ref du) else lawM5 L fa cd l r nb n kd sz t1 t2 t3 pi y
set_option maxHeartbeats 4000000 in
theorem law7 {w : World} {mean : ExcName → Option Value} {mg mb : Str → Option Value} {A : Around} {base h₀ : Heap} {L fa : Addr} {cd : Value} {s : Shared} {Q : Flow → Shared → Prop} {l r nb sm ln d1 : Addr} {us ss lv : List Value} {e1 e2 e3 : Nat} {c1 c2 c3 c4 c5 c6 o1 : Obj}
    {t1 t2 t3 tm : Tok} {n : Nat} {kd sz mx : Int} {pi : Option Value} {S : List Int} {kvs : List (Int × Value)}
    (B : Below A base [] h₀) (F : Fr h₀ L s.heap (lawM5 L fa cd l r nb n kd sz t1 t2 t3 pi)) (X : (Mine.hd.heap_39 w.params).In h₀) (T : Top PV PL mean mg mb h₀)
    (hh : A.handled = none) (hd : A.depth + 200 < recursionLimit)
    (N : News h₀ L s.heap [(d1, o1), (ln, listOf lv.toArray e3), (sm, listOf ss.toArray e2), (nb, listOf us.toArray e1), (L + 6, c6), (L + 5, c5), (L + 4, c4), (L + 3, c3), (L + 2, c2), (L + 1, c1)])
    (hd1 : (d1 == sysModules) = false) (hc4 : c4.data = .cell (some (.ref d1))) (hc5 : c5.data = .cell (some (.int mx tm))) (hdi : o1.IsDictOf (intKind PP w) kvs) (hfl : FlatPairs PyData.int kvs (kdfD (tally S))) (hSl : S.length ≤ 1024)
    (k : ∀ h tk du yd, Fr h₀ L h (lawM7 L fa cd l r nb n kd sz t1 t2 t3 pi du) → News h₀ L h [(du, LCg.lst yd), (ln, listOf lv.toArray e3), (sm, listOf ss.toArray e2), (nb, listOf us.toArray e1), (L + 6, c6), (L + 5, c5), (L + 4, c4), (L + 3, c3), (L + 2, c2), (L + 1, c1)] → IntsAre yd (((tally S).map (·.1)).filter fun k => decide ((S.count k : Int) = mx)) →
      wpAny (model PP w) (A.deeper (lawEnv L fa cd)) (execs (lawFrom 13) (lawEnv L fa cd)) Q (fun _ _ => False) { s with heap := h, toks := tk }) :
    wpAny (model PP w) (A.deeper (lawEnv L fa cd)) (execs (lawFrom 12) (lawEnv L fa cd)) Q (fun _ _ => False) s := by
  w_top off
  have : PySem.Challenge.rw_dm5011_01 = PySem.Challenge.rw_dm5011_01 ∧ Mine.hd.heap_39 = Mine.hd.heap_39 := by k_fill; exact ⟨rfl, rfl⟩
  clear this
  have hB1 : lawSt 12 = lawSt 12 := rfl
  conv at hB1 => rhs; whnf
  have hS : lawScope = lawScope := rfl
  conv at hS => rhs; whnf
  rw [law_drop 12 (by decide), hB1]
  generalize lawFrom 13 = rest at k ⊢
  unfold lawM5 lawM0 lawEnv at *
  simp only [hS] at F ⊢
  clear hB1
  have hkl : kvs.length = (tally S).length := by have := hfl.length; rw [kdfD_length] at this; exact this.symm
  walk1
  refine assign_comp_dict (d := d1) (o := o1) (knd := intKind PP w) (kvs := kvs) (L := L) rfl (by with_unfolding_all rfl) (by with_unfolding_all rfl) (by decide) rfl (by decide) rfl rfl rfl hh hd1 hdi (.head _) (by rw [hkl, sizeLine_eq]; exact Nat.le_trans (tally_len S) (by omega)) F N ?_ ?_
  · intro Q' q
    k_steps
    exact q
  · intro g
    rw [hkl]
    have hkx : (tally S).length = ((tally S).map (·.1)).length := by simp
    rw [hkx]
    refine rest_filter (xs := (tally S).map (·.1)) (fun k => decide ((S.count k : Int) = mx)) ?_ (.head _) ?_ ?_ ?_ _ 0 [] rfl (Nat.zero_le _) .nil
    · rintro i v ⟨k, xv, e1, e2⟩
      obtain ⟨t, rfl⟩ := Value.isInt_shape e2
      obtain ⟨dv, q1, q2⟩ := hfl.at e1
      unfold kdfD at q1
      rw [List.getElem?_map] at q1
      obtain ⟨p, e3, e4⟩ := Option.map_eq_some_iff.mp q1
      obtain rfl := PyData.int.inj (Prod.mk.inj e4).1
      refine ⟨t, ?_⟩
      rw [List.getElem!_eq_getElem?_getD, List.getElem?_map, e3]
      rfl
    · intro i t I oI C oC D oD m₂ h tk E' Q' hlt hC hm F N q
      have hf : ((tally S)[i]?.map (·.1)) = some ((tally S).map (·.1))[i]! := by
        rw [← List.getElem?_map, List.getElem!_eq_getElem?_getD, List.getElem?_eq_getElem hlt]; rfl
      obtain ⟨v9, hv9, hf9⟩ := FlatPairs.of_lookup same_int hfl (lookup_kdfD (first_mem hf))
      obtain ⟨u9, rfl⟩ := hf9.int_inv
      generalize ((tally S).map (·.1))[i]! = key at *
      k_steps
      refine kdt_getItem (knd := intKind _ _) (k := key) N (.tail _ (.tail _ (.tail _ (.head _)))) hdi (intKind_is _ _ _ _) hv9 ?_
      k_steps
      all_goals exact q _
    · intro i t I oI C oC D oD m₂ h tk E' Q' hlt hC hm F N q
      generalize ((tally S).map (·.1))[i]! = key at *
      k_steps
      exact q _
    · intro ys hys D h tk F' N' off
      exact k h tk D ys F' (fun q hq => by
        rcases List.mem_cons.mp hq with rfl | hq
        · exact N' _ (.head _)
        · exact N' _ (.tail _ (.tail _ hq))) hys
end Mine
end

/- text L8a -/
section
open PySem PySem.W PyProof.Rows PyProof.V PySem.Spec
namespace Mine
/-- the fullest of S, in order -/
def modes (S : List Int) (mx : Int) : List Int := ((tally S).map (·.1)).filter fun k => decide ((S.count k : Int) = mx)
theorem tally_at {S : List Int} {i : Nat} {p : Int × Int} (h : (tally S)[i]? = some p) : p.2 = (S.count p.1 : Int) := (((tally_cnt S).mem p.1 p.2).mp (List.mem_of_getElem? h)).2
theorem tally_mem2 {S : List Int} {p : Int × Int} (h : p ∈ tally S) : p.2 = (S.count p.1 : Int) := (((tally_cnt S).mem p.1 p.2).mp h).2
theorem mm_eq (S : List Int) (mx : Int) : ((tally S).filter fun p => decide (p.2 = mx)).map (·.1) = modes S mx := by
  unfold modes
  rw [List.filter_map]
  congr 1
  apply List.filter_congr
  intro p hp
  simp only [Function.comp]
  rw [tally_mem2 hp]
theorem max_uniq {c : List (Int × Int)} {m1 m2 : Int} (h1 : ∃ i, i < c.length ∧ (c[i]!).2 = m1) (h2 : ∀ j, j < c.length → (c[j]!).2 ≤ m1) (h3 : ∃ i, i < c.length ∧ (c[i]!).2 = m2) (h4 : ∀ j, j < c.length → (c[j]!).2 ≤ m2) : m1 = m2 := by
  obtain ⟨i, a, rfl⟩ := h1
  obtain ⟨j, b, rfl⟩ := h3
  exact Int.le_antisymm (h4 i a) (h2 j b)
theorem filter_first {α : Type} {p : α → Bool} : ∀ {l : List α} {i : Nat} {x : α}, l[i]? = some x → p x = true → (∀ j y, j < i → l[j]? = some y → p y = false) → (l.filter p)[0]? = some x
  | [], i, x, h, _, _ => by simp at h
  | a :: l, 0, x, h, hp, _ => by
    obtain rfl : a = x := by simpa using h
    rw [List.filter_cons_of_pos hp]; rfl
  | a :: l, i + 1, x, h, hp, hb => by
    have ha := hb 0 a (Nat.succ_pos _) rfl
    rw [List.filter_cons_of_neg (by rw [ha]; decide)]
    exact filter_first (by simpa using h) hp fun j y hj e => hb (j + 1) y (Nat.succ_lt_succ hj) (by simpa using e)
theorem mode_first {S : List Int} {mx k : Int} (h1 : ∃ i, i < (tally S).length ∧ ((tally S)[i]!).2 = mx) (h2 : ∀ j, j < (tally S).length → ((tally S)[j]!).2 ≤ mx) (h : ∃ i, FirstMax ((tally S).map (·.2)) i ∧ ((tally S)[i]?.map (·.1)) = some k) : (modes S mx)[0]? = some k := by
  obtain ⟨i, ⟨f1, f2⟩, hk⟩ := h
  obtain ⟨p, hp, rfl⟩ := Option.map_eq_some_iff.mp hk
  have hil : i < (tally S).length := by simpa using f1
  have val : ∀ j (hj : j < (tally S).length), ((tally S).map (·.2))[j]! = ((tally S)[j]!).2 := fun j hj => by
    rw [List.getElem!_eq_getElem?_getD, List.getElem?_map, List.getElem?_eq_getElem hj, getElem!_pos _ j hj]; rfl
  have hpi : (tally S)[i]! = p := by rw [List.getElem!_eq_getElem?_getD, hp]; rfl
  have hpm : p.2 = mx := by
    obtain ⟨j, hj, rfl⟩ := h1
    have q1 := f2 j (by simpa using hj)
    rw [val j hj, val i hil, hpi] at q1
    have q2 := h2 i hil
    rw [hpi] at q2
    omega
  unfold modes
  refine filter_first (i := i) (by rw [List.getElem?_map, hp]; rfl) (by rw [← tally_at hp, hpm]; simp) fun j y hj e => ?_
  obtain ⟨q, hq, rfl⟩ := Option.map_eq_some_iff.mp (List.getElem?_map ▸ e)
  have hjl : j < (tally S).length := (List.getElem?_eq_some_iff.mp hq).1
  rw [decide_eq_false_iff_not, ← tally_at hq]
  intro z
  have q1 := f2 j (by simpa using hjl)
  rw [val j hjl, val i hil, hpi] at q1
  have hqj : (tally S)[j]! = q := by rw [List.getElem!_eq_getElem?_getD, hq]; rfl
  rw [hqj] at q1
  omega
end Mine
end

/- text E2 -/
section
open PySem PySem.W PyProof.Rows PySem.Calls PyProof.V PySem.Spec
set_option maxRecDepth 100000
namespace Mine
abbrev vitObj (x : Addr) (i n ep : Nat) : Obj := { cls := .type "dict_valueiterator", data := .fields #[.ref x, .int i 0, .int n 0, .int ep 0] }
section
variable {prog : Program} {w : World} {A : Around} {E : Value → Shared → Prop}
theorem next_val {x it : Addr} {i ep : Nat} {oc : Value} {odx : Option Addr} {osl : Array (Option Value)} {es : Array DictEntry} {e : DictEntry} {Q : Option Value → Shared → Prop} {h : Heap} {g : Array GenState} {d : Drawn} {tk : Tok} {os : OsState}
    (hit : h.get? it = some (vitObj x i es.size ep)) (hx : h.get? x = some ⟨oc, odx, .dict es ep, osl⟩) (he : es[i]? = some e)
    (hq : ∀ h', h'.get? it = some (vitObj x (i + 1) es.size ep) → (∀ b o, b ≠ it → h.get? b = some o → h'.get? b = some o) → Q (some e.val) ⟨h', g, d, tk, os⟩) :
    wpAny (model prog w) A (pyNext (.ref it)) Q E ⟨h, g, d, tk, os⟩ := by
  have hT : Shared.TypeIs ⟨h, g, d, tk, os⟩ (.ref it) "dict_valueiterator" := ⟨_, hit, rfl⟩
  unfold pyNext
  refine wpAny_bind (wpAny_attempt (wpAny_callSpecial?_slot (name := Str.ofString "__next__") hT PySem.F.slot_dict_valueiterator_next
    (wpAny_call_entry PySem.F.slot_dict_valueiterator_next hT PySem.F.entry_dict_valueiterator_next ?_ (PySem.F.args_dict_valueiterator_next_1 _))))
  have hi : (if (i : Int) < 0 then none else es[((i : Int)).toNat]?) = some e := by rw [if_neg (by omega), Int.toNat_natCast]; exact he
  repeat (first | simp only [bne_self_eq_false, Bool.false_eq_true, if_false, hi] | lk)
  refine nd_update (o' := vitObj x (i + 1) es.size ep) hit (by kernel_rfl) rfl fun h1 e1 s1 k1 => ?_
  clear hT
  repeat lk
  refine ⟨_, rfl, ?_⟩
  repeat lk
  exact hq h1 e1 k1
theorem next_val_end {x it : Addr} {i ep : Nat} {oc : Value} {odx : Option Addr} {osl : Array (Option Value)} {es : Array DictEntry} {Q : Option Value → Shared → Prop} {h : Heap} {g : Array GenState} {d : Drawn} {tk : Tok} {os : OsState}
    (hh : A.handled = none) (hit : h.get? it = some (vitObj x i es.size ep)) (hx : h.get? x = some ⟨oc, odx, .dict es ep, osl⟩) (he : es[i]? = none)
    (hq : ∀ h', (∀ b o, b ≠ it → h.get? b = some o → h'.get? b = some o) → Q none ⟨h', g, d, tk, os⟩) :
    wpAny (model prog w) A (pyNext (.ref it)) Q E ⟨h, g, d, tk, os⟩ := by
  have hT : Shared.TypeIs ⟨h, g, d, tk, os⟩ (.ref it) "dict_valueiterator" := ⟨_, hit, rfl⟩
  unfold pyNext
  refine wpAny_bind (wpAny_attempt (wpAny_callSpecial?_slot (name := Str.ofString "__next__") hT PySem.F.slot_dict_valueiterator_next
    (wpAny_call_entry PySem.F.slot_dict_valueiterator_next hT PySem.F.entry_dict_valueiterator_next ?_ (PySem.F.args_dict_valueiterator_next_1 _))))
  have hi : (if (i : Int) < 0 then none else es[((i : Int)).toNat]?) = none := by rw [if_neg (by omega), Int.toNat_natCast]; exact he
  repeat (first | simp only [bne_self_eq_false, Bool.false_eq_true, if_false, hi] | lk)
  refine nd_update (o' := { vitObj x i es.size ep with data := .fields #[.none, .int i 0, .int es.size 0, .int ep 0] }) hit (by kernel_rfl) rfl fun h1 e1 s1 k1 => ?_
  repeat lk
  refine wpAny_handled ?_
  rw [show A.in1.handled = none from hh]
  repeat lk
  refine wpAny_throw ?_
  refine wpAny_bind ((isi_stop (Heap.get?_push_size _ rfl) rfl).at ?_)
  repeat lk
  exact hq _ fun b o ne q => Heap.get?_push_of_some _ (Heap.get?_push_of_some _ (k1 b o ne q))
theorem iter_vals {v x : Addr} {oc : Value} {odx : Option Addr} {osl : Array (Option Value)} {es : Array DictEntry} {ep : Nat} {Q : Value → Shared → Prop} {h : Heap} {g : Array GenState} {d : Drawn} {tk : Tok} {os : OsState}
    (hv : h.get? v = some (viewObj "dict_values" x)) (hx : h.get? x = some ⟨oc, odx, .dict es ep, osl⟩)
    (hq : Q (.ref h.objs.size) ⟨h.push (vitObj x 0 es.size ep), g, d, tk, os⟩) :
    wpAny (model prog w) A (pyIter (.ref v)) Q E ⟨h, g, d, tk, os⟩ := by
  have hT : Shared.TypeIs ⟨h, g, d, tk, os⟩ (.ref v) "dict_values" := ⟨_, hv, rfl⟩
  refine wpAny_pyIter_slot hT PySem.F.slot_dict_values_iter (wpAny_call_entry PySem.F.slot_dict_values_iter hT PySem.F.entry_dict_values_iter ?_ (PySem.F.args_dict_values_iter_1 _))
  repeat lk
  have hown : Builtin.Dict_items.ownsTuple "dict_valueiterator" = false := by decide
  simp only [hown, if_true, Bool.false_eq_true, if_false]
  exact ⟨_, rfl, "dict_valueiterator", _, ⟨_, Heap.get?_push_size _ rfl, rfl⟩, PySem.F.slot_dict_valueiterator_next.lookup, hq⟩
theorem self_val {it x : Addr} {i n ep : Nat} {Q : Value → Shared → Prop} {h : Heap} {g : Array GenState} {d : Drawn} {tk : Tok} {os : OsState} (hit : h.get? it = some (vitObj x i n ep)) (hq : Q (.ref it) ⟨h, g, d, tk, os⟩) : wpAny (model prog w) A (pyIter (.ref it)) Q E ⟨h, g, d, tk, os⟩ :=
  wpAny_pyIter_valiter (n := n) (ep := ep) (i := i) (d := x) ⟨_, hit, rfl, rfl⟩ hq
theorem walks_vals {x I : Addr} {oc : Value} {odx : Option Addr} {osl : Array (Option Value)} {es : Array DictEntry} {ep : Nat} {c : List (Int × Int)} (hh : A.handled = none) (hne : x ≠ I) (hc : CE c es) :
    Walks prog w A I [I, x] [I] c.length (fun i v => ∃ t, v = .int (c[i]!).2 t) (fun i h => h.get? I = some (vitObj x i es.size ep) ∧ h.get? x = some ⟨oc, odx, .dict es ep, osl⟩) where
  sub := fun b hb => by simp at hb; simp [hb]
  frame := fun _ _ _ st hk => ⟨hk I (by simp) _ st.1, hk x (by simp) _ st.2⟩
  item := fun i s Q E hi st hQ => by
    obtain ⟨e, t, u, he, _, hv⟩ := hc.get hi
    refine next_val st.1 st.2 he fun h' hit' k' => ?_
    exact hQ _ h' s.toks ⟨u, by rw [hv, List.getElem!_eq_getElem?_getD, List.getElem?_eq_getElem hi]; rfl⟩ ⟨hit', k' _ _ hne st.2⟩ fun b o hb e => k' b o (fun q => hb (by simp [q])) e
  done := fun s Q E st hQ => next_val_end hh st.1 st.2 (Array.getElem?_eq_none (by rw [hc.size]; exact Nat.le_refl _)) fun h' k' => hQ h' s.toks fun b o hb e => k' b o (fun q => hb (by simp [q])) e
  self := fun _ _ _ _ st hQ => self_val st.1 hQ
theorem max_vals {v x : Addr} {oc : Value} {odx : Option Addr} {osl : Array (Option Value)} {es : Array DictEntry} {ep : Nat} {c : List (Int × Int)} {Q : Value → Shared → Prop} {h : Heap} {g : Array GenState} {d : Drawn} {tk : Tok} {os : OsState}
    (hh : A.handled = none) (hv : h.get? v = some (viewObj "dict_values" x)) (hx : h.get? x = some ⟨oc, odx, .dict es ep, osl⟩) (hc : CE c es) (hn : 0 < c.length)
    (hq : ∀ h' tk' mx t, h.StaysIn h' → (∃ i, i < c.length ∧ (c[i]!).2 = mx) → (∀ j, j < c.length → (c[j]!).2 ≤ mx) → Q (.int mx t) ⟨h', g, d, tk', os⟩) :
    wpAny (model prog w) A (call (.builtin "max") [.ref v]) Q E ⟨h, g, d, tk, os⟩ := by
  refine call_max_walk (iter_vals hv hx ?_)
  have hxI : x ≠ h.objs.size := Nat.ne_of_lt (Heap.lt_size hx)
  refine ⟨h.objs.size, [h.objs.size, x], [h.objs.size], c.length, _, _, fun i j => decide ((c[i]!).2 > (c[j]!).2), rfl, walks_vals (A := A.in1) (oc := oc) (odx := odx) (osl := osl) (es := es) (ep := ep) hh hxI hc, ⟨Heap.get?_push_size _ rfl, Heap.get?_push_of_some _ hx⟩, ?_, hn, ?_, ?_⟩
  · intro b hb
    show b < (h.push _).objs.size
    rw [Heap.size_push]
    rcases List.mem_cons.mp hb with rfl | hb
    · exact Nat.lt_succ_self _
    · rw [List.mem_singleton.mp hb]; exact Nat.lt_succ_of_lt (Heap.lt_size hx)
  · rintro i j vi vj s Q' E' ⟨t, rfl⟩ ⟨u, rfl⟩ q
    exact (show wpAny _ _ (compareOp .Gt _ _) _ _ _ from PyProof.Rows.gt_int q)
  · rintro vv h' tk' ⟨t, rfl⟩ hk
    obtain ⟨b1, b2⟩ := argBest_gt (fun i => (c[i]!).2) (c.length - 1)
    exact hq h' tk' _ t (fun b o e => hk b o (fun z => by
      rw [List.mem_singleton] at z
      have := Heap.lt_size e
      rw [z] at this; exact Nat.lt_irrefl _ this) (Heap.get?_push_of_some _ e)) ⟨_, by omega, rfl⟩ fun j hj => b2 j (by omega)
theorem len_call {C x : Addr} {odx : Option Addr} {osl : Array (Option Value)} {es : Array DictEntry} {ep : Nat} {Q : Value → Shared → Prop} {h : Heap} {g : Array GenState} {d : Drawn} {tk : Tok} {os : OsState}
    (hx : h.get? x = some ⟨.ref C, odx, .dict es ep, osl⟩) (h1 : Looks (model prog w) h (isSubtype (.ref C) (.type "dict")) true) (h2 : Looks (model prog w) h (isSubtype (.ref C) (.type "collections.OrderedDict")) false) (hs : (x == sysModules) = false)
    (hq : Q (.int es.size tk) ⟨h, g, d, tk + 1, os⟩) : wpAny (model prog w) A (call (.builtin "dict.__len__") [.ref x]) Q E ⟨h, g, d, tk, os⟩ := by
  refine call_dict (by decide +kernel) PySem.F.entry_dict_len (.inr (by decide +kernel)) (n := "__len__") (by decide +kernel) (PySem.F.args_dict_len_1 _) ((Looks.ld hx).andThen h1) ?_
  unfold Builtin.«dict.__len__»
  repeat (first | simp only [hs, Bool.false_eq_true, if_false] | lk)
  refine ⟨_, rfl, ?_⟩
  rw [show ((es.size : Int) + ((0 : Nat) : Int)) = es.size by omega]
  exact hq
/-- a Counter's truth -/
theorem truthy_counter {C x : Addr} {odx : Option Addr} {osl : Array (Option Value)} {es : Array DictEntry} {ep : Nat} {Q : Bool → Shared → Prop} {h : Heap} {g : Array GenState} {d : Drawn} {tk : Tok} {os : OsState}
    (hx : h.get? x = some ⟨.ref C, odx, .dict es ep, osl⟩) (h1 : Looks (model prog w) h (isSubtype (.ref C) (.type "dict")) true) (hb : Looks (model prog w) h (typeLookup (.ref C) "__bool__") none) (hl : Looks (model prog w) h (typeLookup (.ref C) "__len__") (some (.builtin "dict.__len__")))
    (hbs : Looks (model prog w) h (bindSpecial (.builtin "dict.__len__") (.ref x)) (.builtin "dict.__len__", [.ref x])) (h2 : Looks (model prog w) h (isSubtype (.ref C) (.type "collections.OrderedDict")) false) (hs : (x == sysModules) = false)
    (hsz : es.size ≤ 4096) (hq : ∀ tk', Q ((es.size : Int) != 0) ⟨h, g, d, tk', os⟩) : wpAny (model prog w) A (truthy (.ref x)) Q E ⟨h, g, d, tk, os⟩ := by
  unfold truthy
  repeat (first | (with_reducible refine wpAny_runValue ?_) | lk)
  refine codeAny_builtin PySem.entry_len ?_
  repeat (first | ((with_reducible show wpAny _ _ (call _ _ _) _ _ _); refine len_call hx h1 h2 hs ?_) | lk)
  rw [if_neg (show ¬((es.size : Int) ≥ 2 ^ 63) from by
    have : ((2 : Int) ^ 63) = 9223372036854775808 := by decide
    rw [this]; omega)]
  repeat lk
  exact hq _
end
end Mine
end

/- text E4 -/
section
open PySem PySem.W PyProof.Rows PySem.Calls PyProof.V PySem.Spec
set_option maxRecDepth 100000
namespace Mine
section
variable {prog : Program} {w : World} {A : Around} {E : Value → Shared → Prop}
/-- the iterator's own tuple is free: the next pair is handed out as its own -/
theorem next_item0 {x it : Addr} {ok ov : Value} {f : Bool} {i ep : Nat} {oc : Value} {odx : Option Addr} {osl : Array (Option Value)} {es : Array DictEntry} {e : DictEntry} {Q : Option Value → Shared → Prop} {h : Heap} {g : Array GenState} {d : Drawn} {tk : Tok} {os : OsState}
    (hit : h.get? it = some (iitObj .none f x i es.size ep ok ov)) (hx : h.get? x = some ⟨oc, odx, .dict es ep, osl⟩) (he : es[i]? = some e)
    (hq : ∀ h' (p : Addr), h'.get? it = some (iitObj (rawInt p) false x (i + 1) es.size ep e.key e.val) → h'.get? p = some { cls := .type "tuple", data := .seq #[e.key, e.val] } → @LE.le Nat _ h.objs.size p → p ≠ it →
      (∀ b o, b ≠ it → h.get? b = some o → h'.get? b = some o) → Q (some (.ref p)) ⟨h', g, d, tk, os⟩) :
    wpAny (model prog w) A (pyNext (.ref it)) Q E ⟨h, g, d, tk, os⟩ := by
  have hT : Shared.TypeIs ⟨h, g, d, tk, os⟩ (.ref it) "dict_itemiterator" := ⟨_, hit, rfl⟩
  unfold pyNext
  refine wpAny_bind (wpAny_attempt (wpAny_callSpecial?_slot (name := Str.ofString "__next__") hT PySem.F.slot_dict_itemiterator_next
    (wpAny_call_entry PySem.F.slot_dict_itemiterator_next hT PySem.F.entry_dict_itemiterator_next ?_ (PySem.F.args_dict_itemiterator_next_1 _))))
  have hi : (if (i : Int) < 0 then none else es[((i : Int)).toNat]?) = some e := by rw [if_neg (by omega), Int.toNat_natCast]; exact he
  repeat (first | simp only [bne_self_eq_false, Bool.false_eq_true, if_false, hi] | lk)
  refine nd_update (o' := iitObj .none f x (i + 1) es.size ep ok ov) hit (by kernel_rfl) rfl fun h1 e1 s1 k1 => ?_
  clear hT
  repeat lk
  have e2 : (h1.push { cls := .type "tuple", data := .seq #[e.key, e.val] }).get? it = some (iitObj .none f x (i + 1) es.size ep ok ov) := Heap.get?_push_of_some _ e1
  have t2 : (h1.push { cls := .type "tuple", data := .seq #[e.key, e.val] }).get? h1.objs.size = some { cls := .type "tuple", data := .seq #[e.key, e.val] } := Heap.get?_push_size _ rfl
  have k2 : ∀ b o, b ≠ it → h.get? b = some o → (h1.push { cls := .type "tuple", data := .seq #[e.key, e.val] }).get? b = some o := fun b o ne q => Heap.get?_push_of_some _ (k1 b o ne q)
  have le : @LE.le Nat _ h.objs.size h1.objs.size := Nat.le_of_eq s1.symm
  have pit : h1.objs.size ≠ it := fun q => by
    have := Heap.lt_size e1
    rw [q] at this
    exact Nat.lt_irrefl _ this
  generalize (h1.push { cls := .type "tuple", data := .seq #[e.key, e.val] }) = h2 at e2 t2 k2 ⊢
  generalize h1.objs.size = p at t2 le pit ⊢
  clear hit hx he hi e1 s1 k1 h1
  repeat lk
  refine nd_update (o' := iitObj .none f x (i + 1) es.size ep e.key ov) e2 (by kernel_rfl) rfl fun h3 e3 s3 k3 => ?_
  repeat lk
  refine nd_update (o' := iitObj .none f x (i + 1) es.size ep e.key e.val) e3 (by kernel_rfl) rfl fun h4 e4 s4 k4 => ?_
  repeat lk
  refine nd_update (o' := iitObj (rawInt p) f x (i + 1) es.size ep e.key e.val) e4 (by kernel_rfl) rfl fun h5 e5 s5 k5 => ?_
  repeat lk
  refine nd_update (o' := iitObj (rawInt p) false x (i + 1) es.size ep e.key e.val) e5 (by kernel_rfl) rfl fun h6 e6 s6 k6 => ?_
  have t6 := k6 _ _ pit (k5 _ _ pit (k4 _ _ pit (k3 _ _ pit t2)))
  repeat lk
  refine ⟨_, rfl, ?_⟩
  repeat lk
  exact hq h6 p e6 t6 le pit fun b o ne q => k6 _ _ ne (k5 _ _ ne (k4 _ _ ne (k3 _ _ ne (k2 b o ne q))))
end
section
variable {prog : Program} {w : World} {A : Around} {E : Value → Shared → Prop} {s : Shared}
/-- one clause, a pair to unpack, one test -/
theorem compLoop_pairT {elt iter c : Expr} {elts : List Expr} {x1} {tp : Pos} {scope : Scope} {pos : Pos} {it acc : Value} {env : Env} {R : Result → Shared → Prop} (I : Nat → Shared → Prop)
    (turn : ∀ n s, I n s → wpAny (model prog w) A (pyNext it) (fun r s₁ => match r with
      | none => R (.ok .next) s₁
      | some v => wpAny (model prog w) A (letOwnedTupleGo (.Tuple elts x1 tp) it v) (fun _ s₂ => wpAny (model prog w) A (assign (.Tuple elts x1 tp) env v) (fun _ s₃ =>
          wpAny (model prog w) A (isTrue c env (eval c env)) (fun ok s₄ => if ok = true then wpAny (model prog w) A (eval elt env) (fun y s₅ =>
              wpAny (model prog w) A (call (.builtin "list.append") [acc, y]) (fun _ s₆ => ∃ m, m < n ∧ I m s₆) (notedBy (model prog w) A env fun e s' => R (.error e) s') s₅) (notedBy (model prog w) A env fun e s' => R (.error e) s') s₄
            else ∃ m, m < n ∧ I m s₄) (notedBy (model prog w) A env fun e s' => R (.error e) s') s₃)
          (notedBy (model prog w) A env fun e s' => R (.error e) s') s₂) (notedBy (model prog w) A env fun e s' => R (.error e) s') s₁) (notedBy (model prog w) A env fun e s' => R (.error e) s') s)
    (n : Nat) (h : I n s) : codeAny (model prog w) A (.compLoop (.ListComp elt [⟨.Tuple elts x1 tp, iter, [c], 0⟩] scope pos) 0 it acc env) R s := by
  refine codeAny_loop rfl I (fun n s hI => ?_) n h
  show wpAny _ A ((compTurn (.ListComp elt [⟨.Tuple elts x1 tp, iter, [c], 0⟩] scope pos) 0 it acc env).onRaise (fun x => do noteFrame x env; theTreesLotGoes x)) _ _ s
  refine wpAny_noted ?_
  rw [compTurn_list]
  refine wpAny_bind (wpAny_standAt (wpAny_bind (wpAny_mono (turn n s hI) (fun r s₁ h₁ => ?_) fun _ _ z => z)))
  cases r with
  | none => exact wpAny_pure h₁
  | some v =>
    refine wpAny_bind (wpAny_mono h₁ (fun _ s₂ h₂ => ?_) fun _ _ z => z)
    refine wpAny_bind (wpAny_mono h₂ (fun _ s₃ h₃ => wpAny_bind (wpAny_mono (wpAny_tests_one h₃) (fun ok s₄ h₄ => ?_) fun _ _ z => z)) fun _ _ z => z)
    cases ok with
    | false => exact wpAny_pure ⟨rfl, h₄⟩
    | true => exact wpAny_bind (wpAny_bind (wpAny_mono h₄ (fun y s₅ h₅ => wpAny_bind (wpAny_mono h₅ (fun _ s₆ h₆ => wpAny_pure (wpAny_pure ⟨rfl, h₆⟩)) fun _ _ z => z)) fun _ _ z => z))
end
end Mine
end

/- text E5 -/
section
open PySem PySem.W PyProof.Rows PySem.Calls PyProof.V PySem.Spec
set_option maxRecDepth 100000
namespace Mine
section
variable {prog : Program} {w : World} {A : Around} {E : Value → Shared → Prop}
theorem entry_itemiter_iter : entryFor table "dict_itemiterator.__iter__" = some Builtin.«dict_keyiterator.__iter__» :=
  entryFor_alias (id' := "dict_keyiterator.__iter__") (by rw [fastTable_eq_tree]; kernel_rfl) (by decide +kernel) (by decide +kernel) (by rw [fastTable_eq_tree]; kernel_rfl)
theorem self_item {it : Addr} {o : Obj} {Q : Value → Shared → Prop} {h : Heap} {g : Array GenState} {d : Drawn} {tk : Tok} {os : OsState} (hit : h.get? it = some o) (hc : o.cls = .type "dict_itemiterator") (hq : Q (.ref it) ⟨h, g, d, tk, os⟩) : wpAny (model prog w) A (pyIter (.ref it)) Q E ⟨h, g, d, tk, os⟩ := by
  have hT : Shared.TypeIs ⟨h, g, d, tk, os⟩ (.ref it) "dict_itemiterator" := ⟨_, hit, hc⟩
  refine wpAny_pyIter_slot hT PySem.F.slot_dict_itemiterator_iter (wpAny_call_entry PySem.F.slot_dict_itemiterator_iter hT entry_itemiter_iter ?_ (PySem.F.args_dict_itemiterator_iter_1 _))
  repeat lk
  exact ⟨_, rfl, "dict_itemiterator", _, hT, PySem.F.slot_dict_itemiterator_next.lookup, hq⟩
theorem comp_items {iter : Expr} {xn x₂ yn : Str} {p1 p2 p3 p4 px px₂ tp pos : Pos} {kx : Nat} {scope : Scope} {cl : List (Str × Addr)} {env : Env} {Q : Value → Shared → Prop} {v x ca : Addr} {co : Obj} {oc : Value} {odx : Option Addr} {osl : Array (Option Value)} {es : Array DictEntry} {ep : Nat} {c : List (Int × Int)} {mx : Int} {tm : Tok}
    {h : Heap} {g : Array GenState} {d : Drawn} {tk : Tok} {os : OsState}
    (hh : A.handled = none) (hkind : scope.kind = .function) (hcell : ∀ z ∈ scope.names, z.2 ≠ .cell) (hx₁ : scope.names.lookup xn = some .local) (hx₂ : scope.names.lookup x₂ = some .local) (hxx : xn ≠ x₂)
    (hyk : ∀ C, (compEnvC scope cl C env).kindOf yn = some .cell) (hyc : cl.lookup yn = some ca) (hd1 : (xn == ("__debug__" : Str)) = false) (hd2 : (x₂ == ("__debug__" : Str)) = false) (hd3 : (yn == ("__debug__" : Str)) = false)
    (hv : h.get? v = some (viewObj "dict_items" x)) (hx : h.get? x = some ⟨oc, odx, .dict es ep, osl⟩) (hc : CE c es) (hn : c.length ≤ 4096) (hco : h.get? ca = some co) (hcd : co.data = .cell (some (.int mx tm)))
    (hQ : ∀ h' tk' D us e, h.StaysIn h' → @LE.le Nat _ h.objs.size D → h'.get? D = some (seqObj "list" us.toArray e) → IntsAre us ((c.filter fun p => decide (p.2 = mx)).map (·.1)) → Q (.ref D) ⟨h', g, d, tk', os⟩) :
    wpAny (model prog w) A (pyIter (.ref v)) (fun it s₂ => wpAny (model prog w) A (newList []) (fun acc s₃ => wpAny (model prog w) A (newFunctionEnv scope env.globals cl [] env.qual none .none (some env)) (fun cenv s₄ =>
      codeAny (model prog w) A (.compStart (.ListComp (.Name xn p1) [⟨.Tuple [.Name xn px, .Name x₂ px₂] kx tp, iter, [.Compare (.Name x₂ p2) [.Eq] [.Name yn p3] p4], 0⟩] scope pos) 0 it acc { cenv with scope := relabel scope env }) (compPost (model prog w) A E none Q acc cenv.locals) s₄) E s₃) E s₂) E ⟨h, g, d, tk, os⟩ := by
  refine iter_items hv hx ?_
  have hIx : x ≠ h.objs.size := Nat.ne_of_lt (Heap.lt_size hx)
  have st1 : ∀ b o, h.get? b = some o → b ≠ h.objs.size ∧ (h.push (iitObj .none false x 0 es.size ep .none .none)).get? b = some o := fun b o e => ⟨Nat.ne_of_lt (Heap.lt_size e), Heap.get?_push_of_some _ e⟩
  have hI1 : (h.push (iitObj .none false x 0 es.size ep .none .none)).get? h.objs.size = some (iitObj .none false x 0 es.size ep .none .none) := Heap.get?_push_size _ rfl
  generalize hIe : h.objs.size = I at st1 hI1 hIx ⊢
  generalize (h.push (iitObj .none false x 0 es.size ep .none .none)) = h1 at st1 hI1 ⊢
  refine wpAny_newList ?_
  have st2 : ∀ b o, h1.get? b = some o → b ≠ h1.objs.size ∧ (h1.push (seqObj "list" #[] 0)).get? b = some o := fun b o e => ⟨Nat.ne_of_lt (Heap.lt_size e), Heap.get?_push_of_some _ e⟩
  have hD2 : (h1.push (seqObj "list" #[] 0)).get? h1.objs.size = some (seqObj "list" #[] 0) := Heap.get?_push_size _ rfl
  have hDle : @LE.le Nat _ I h1.objs.size := Nat.le_of_lt (Heap.lt_size hI1)
  show wpAny _ _ _ _ _ ⟨h1.push (seqObj "list" #[] 0), g, d, tk, os⟩
  generalize h1.objs.size = D at st2 hD2 hDle ⊢
  generalize h1.push (seqObj "list" #[] 0) = h2 at st2 hD2 ⊢
  refine wpAny_newFunctionEnv hcell (by intro y hy; simp at hy) (fun h3 hns hsb => ?_) hkind
  dsimp only at hns hsb ⊢
  have st3 : ∀ b o, h2.get? b = some o → b ≠ h2.objs.size ∧ h3.get? b = some o := fun b o e => ⟨Nat.ne_of_lt (Heap.lt_size e), hsb.extBut b o (Nat.ne_of_lt (Heap.lt_size e)) (Heap.get?_push_of_some _ e)⟩
  generalize h2.objs.size = C at hns st3 ⊢
  have hI2 := (st2 _ _ hI1).2
  have hID := (st2 _ _ hI1).1
  have hI3 := (st3 _ _ hI2).2
  have hIC := (st3 _ _ hI2).1
  have hD3 := (st3 _ _ hD2).2
  have hDC := (st3 _ _ hD2).1
  have keep : ∀ b o, h.get? b = some o → b ≠ I ∧ b ≠ D ∧ b ≠ C ∧ h3.get? b = some o := fun b o e =>
    have a := st1 b o e
    have b' := st2 b o a.2
    have c' := st3 b o b'.2
    ⟨a.1, b'.1, c'.1, c'.2⟩
  clear hsb st1 st2 st3 hI1 hD2 hI2
  have loop : ∀ tk3, codeAny (model prog w) A (.compLoop (.ListComp (.Name xn p1) [⟨.Tuple [.Name xn px, .Name x₂ px₂] kx tp, iter, [.Compare (.Name x₂ p2) [.Eq] [.Name yn p3] p4], 0⟩] scope pos) 0 (.ref I) (.ref D) (compEnvC scope cl C env)) (compPost (model prog w) A E none Q (.ref D) C) ⟨h3, g, d, tk3, os⟩ := by
    intro tk3
    refine compLoop_pairT (fun k s' => ∃ h' tk' i us e m' f ok ov, s' = ⟨h', g, d, tk', os⟩ ∧ i ≤ c.length ∧ k = c.length + 1 - i ∧ h'.get? I = some (iitObj .none f x i es.size ep ok ov) ∧ h'.get? D = some (seqObj "list" us.toArray e) ∧ us.length ≤ i ∧
      IntsAre us (((c.take i).filter fun p => decide (p.2 = mx)).map (·.1)) ∧ h'.Ns C m' ∧ ∀ b o, h.get? b = some o → h'.get? b = some o) ?_ (c.length + 1)
      ⟨h3, tk3, 0, [], 0, _, false, .none, .none, rfl, Nat.zero_le _, rfl, hI3, hD3, Nat.le_refl _, .nil, hns, fun b o e => (keep b o e).2.2.2⟩
    rintro k s' ⟨h', tk', i, us, e, m', f, ok, ov, rfl, hi, rfl, hI', hD', hul, hus, hns', hst⟩
    have hx' := hst _ _ hx
    rcases Nat.lt_or_ge i c.length with hlt | hge
    · obtain ⟨en, t, u, hen, hkey, hval⟩ := hc.get hlt
      refine next_item0 hI' hx' hen fun h5 p hI5 hp5 hle5 hpI k5 => ?_
      refine wpAny_letOwnedTupleGo_items hI5 fun h6 hI6 hs6 => ?_
      have hp6 : h6.get? p = _ := hs6.extBut _ _ hpI hp5
      have ht : IsTup h6 p #[en.key, en.val] := ⟨_, hp6, rfl, _, rfl⟩
      refine assign_Tuple_tuple hh ht rfl rfl fun h7 he7 => ?_
      have k7 : ∀ b o, b ≠ I → h'.get? b = some o → h7.get? b = some o := fun b o ne q =>
        have q6 := hs6.extBut b o ne (k5 b o ne q)
        he7 b o (Nat.ne_of_lt (Heap.lt_size q6)) q6
      have hI7 : h7.get? I = _ := he7 _ _ (Nat.ne_of_lt (Heap.lt_size hI6)) hI6
      have hn7 : h7.Ns C m' := hns'.at' fun o q => k7 _ o hIC.symm q
      refine assignInOrder_cons (wpAny_assign_Name (wpAny_storeName_local (lookup_relabel_local hx₁) hn7 (fun h8 hn8 hs8 => ?_) (by simp [compEnvC, relabel, hkind])))
      refine assignInOrder_cons (wpAny_assign_Name (wpAny_storeName_local (lookup_relabel_local hx₂) hn8 (fun h9 hn9 hs9 => ?_) (by simp [compEnvC, relabel, hkind])))
      refine assignInOrder_nil ?_
      have k9 : ∀ b o, b ≠ C → h7.get? b = some o → h9.get? b = some o := fun b o ne q => hs9.extBut b o ne (hs8.extBut b o ne q)
      have hI9 := k9 _ _ hIC hI7
      have hD9 := k9 _ _ hDC (k7 _ _ hID.symm hD')
      have hst9 : ∀ b o, h.get? b = some o → h9.get? b = some o := fun b o q => k9 b o (keep b o q).2.2.1 (k7 b o (keep b o q).1 (hst b o q))
      dsimp only
      have hfn : (compEnvC scope cl C env).scope.kind = .function := by simp [compEnvC, relabel, hkind]
      have hkeep : (List.filter (fun p => decide (p.2 = mx)) (c.take (i + 1))) = (c.take i).filter (fun p => decide (p.2 = mx)) ++ if decide (c[i].2 = mx) = true then [c[i]] else [] := take_succ_filter _ c i _ (List.getElem?_eq_getElem hlt)
      refine wpAny_isTrue_Compare1 ?_
      refine wpAny_Name (wpAny_loadName_local hfn (lookup_relabel_local hx₂) hn9 (v := en.val) (by simp) ?_) hd2
      rw [hval]
      refine wpAny_Name (wpAny_loadName_cell hfn (hyk C) hyc ⟨co, hst9 _ _ hco, hcd⟩ ?_) hd3
      refine PyProof.Rows.eq_int (wpAny_truthy_bool ?_)
      by_cases hm : c[i].2 = mx
      · rw [if_pos (by simpa using hm)]
        rw [if_pos (by simpa using hm)] at hkeep
        refine wpAny_Name (wpAny_loadName_local hfn (lookup_relabel_local hx₁) hn9 (v := en.key) (by simp [hxx]) ?_) hd1
        rw [hkey]
        refine append_at hD9 (fun h10 hs10 hD10 => ?_) (by rw [List.size_toArray, sizeLine_eq]; omega)
        refine ⟨c.length + 1 - (i + 1), by omega, h10, _, i + 1, us ++ [.int c[i].1 t], e + 1, _, _, _, _, rfl, hlt, rfl, hs10.extBut _ _ hID hI9, by rw [List.push_toArray] at hD10; exact hD10, by rw [List.length_append]; simp; omega, ?_, hn9.sameBut hs10 hDC.symm, fun b o q => hs10.extBut b o (keep b o q).2.1 (hst9 b o q)⟩
        rw [hkeep, List.map_append]
        exact hus.append (.cons _ _ .nil)
      · rw [if_neg (by simpa using hm)]
        rw [if_neg (by simpa using hm), List.append_nil] at hkeep
        exact ⟨c.length + 1 - (i + 1), by omega, h9, _, i + 1, us, e, _, _, _, _, rfl, hlt, rfl, hI9, hD9, by omega, by rw [hkeep]; exact hus, hn9, hst9⟩
    · refine next_end hh hI' hx' (Array.getElem?_eq_none (by rw [hc.size]; exact hge)) fun h5 k5 => ?_
      have hil : i = c.length := by omega
      rw [hil, List.take_length] at hus
      refine ⟨m', hns'.at' fun o q => k5 _ o hIC.symm q, fun h6 hs6 => ?_⟩
      refine hQ h6 tk' D us e (fun b o q => ?_) ?_ ?_ hus
      · exact hs6.extBut b o (keep b o q).2.2.1 (k5 b o (keep b o q).1 (hst b o q))
      · rw [hIe]; exact hDle
      · exact hs6.extBut _ _ hDC (k5 _ _ hID.symm hD')
  refine codeAny_compStart_list (loop _) ?_
  exact self_item hI3 rfl (loop _)
end
end Mine
end

/- text E3 -/
section
open PySem PySem.W PyProof.Rows PySem.Calls PyProof.V PySem.Spec
set_option maxRecDepth 100000
namespace Mine
theorem ListComp_gen {M : Model} {A : Around} {E : Value → Shared → Prop} {s : Shared} {elt target iter : PySem.Expr} {ifs : List PySem.Expr} {scope : Scope} {pos : Pos} {env : Env} {cl : List (Str × Addr)} {Q : Value → Shared → Prop}
    (hs : ∀ x, foldedSetIterable iter env x = pure x) (hclos : closureFor scope env = pure cl) (hkind : scope.kind = .function) (hnames : ∀ x ∈ scope.names, x.2 = .local → scope.names.lookup x.1 = some .local)
    (h : wpAny M A (eval iter env) (fun x s₁ => wpAny M A (pyIter x) (fun it s₂ => wpAny M A (newList []) (fun acc s₃ => wpAny M A (newFunctionEnv scope env.globals cl [] env.qual none .none (some env)) (fun cenv s₄ =>
      codeAny M A (.compStart (.ListComp elt [⟨target, iter, ifs, 0⟩] scope pos) 0 it acc { cenv with scope := relabel scope env }) (compPost M A E none Q acc cenv.locals) s₄) E s₃) E s₂) E s₁) E s) :
    wpAny M A (eval (.ListComp elt [⟨target, iter, ifs, 0⟩] scope pos) env) Q E s := by
  rw [eval_ListComp]
  exact wpAny_comprehension_free (use := none) rfl hs hclos hkind hnames h
theorem counter_KC {w : World} {mean : ExcName → Option Value} {mg mb : Str → Option Value} {outer : List Env} {A₀ A : Around} {base h₀ : Heap} {L : Addr} {m : Str → Option Value} {s : Shared} {Q E : Value → Shared → Prop} {env : Env} {l it : Addr} {vs : List Value} {ns : List Int} {cells : List (Addr × Obj)}
    (B : Below A₀ base outer h₀) (F : Fr h₀ L s.heap m) (X : (Mine.hd.heap_39 w.params).In h₀) (T : Top PV PL mean mg mb h₀) (XB : (Mine.hd.heap_39 w.params).In base) (TB : Top PV PL mean mg mb base) (N : News h₀ L s.heap ((it, itObj l 0) :: cells)) (hne : ∀ q ∈ cells, q.1 ≠ it)
    (hA : A.frames = some (env :: outer)) (hf : env.frame = some L) (hke : env.scope.kind = .function) (hh : A.handled = none) (hd : A.depth + 4 < recursionLimit)
    (hl : h₀.IsList l vs.toArray) (hi : IntsAre vs ns) (hn : vs.length ≤ 4096)
    (ret : ∀ x dx h' tk' es n g', KtsTurn (frs outer) h₀ g' → Fr g' L h' m → News g' L h' ((x, cntObj 285 dx es n) :: (dx, dictOf [] 0) :: cells) → Below A₀ base outer g' → (Mine.hd.heap_39 w.params).In g' → Top PV PL mean mg mb g' → CE (tally ns) es → (x == sysModules) = false → (∀ q ∈ cells, q.1 < dx) → dx < x → Q (.ref x) { s with heap := h', toks := tk' }) :
    wpAny (model PP w) A (call (.ref 285) [.ref it]) Q E s := by
  refine counter_call (ns := ns) B F X T XB TB N hA hf hke hh hd (.head _) hl hi hn fun x dx h' tk' es n l1 l2 hxs Tn' hx hdx hce => ?_
  have hit := N _ (.head _)
  have Fh := Fr.hide F hit.2.2 hit.2.1
  obtain ⟨g', KT, F', B'⟩ := reground (env := env) B Fh hf Tn'
  have Nc : News h₀ L (hideAll s.heap [it]) cells := fun q hq => ⟨hideAll_get _ (N q (.tail _ hq)).1 (fun z => hne q hq (List.mem_singleton.mp z)), (N q (.tail _ hq)).2⟩
  have Nc' := Mine.News.turn (env := env) B hf Nc Tn' KT
  have fx := fun {y : Addr} (hy : @LE.le Nat _ s.heap.objs.size y) => kdx_fresh F hy
  have hdx' := fx l1
  have hx' := fx (Nat.le_trans l1 (Nat.le_of_lt l2))
  refine ret x dx h' tk' es n g' KT F' (fun q hq => ?_) B' (XB.keeps B'.stays) (TB.keeps B'.stays) hce hxs (fun q hq => Nat.lt_of_lt_of_le (Heap.lt_size (N q (.tail _ hq)).1) l1) l2
  rcases List.mem_cons.mp hq with rfl | hq
  · exact ⟨hx, hx'.1, KT.none_ _ hx'.2⟩
  · rcases List.mem_cons.mp hq with rfl | hq
    · exact ⟨hdx, hdx'.1, KT.none_ _ hdx'.2⟩
    · exact Nc' q hq
set_option maxHeartbeats 4000000 in
theorem mm_call {w : World} {mean : ExcName → Option Value} {mg mb : Str → Option Value} {A A₀ : Around} {env : Env} {outer : List Env} {base h₀ : Heap} {L : Addr} {m : Str → Option Value} {s : Shared} {Q E : Value → Shared → Prop} {l : Addr} {vs : List Value} {ns : List Int}
    (B : Below A₀ base outer h₀) (F : Fr h₀ L s.heap m) (X : (Mine.hd.heap_39 w.params).In h₀) (T : Top PV PL mean mg mb h₀) (XB : (Mine.hd.heap_39 w.params).In base) (TB : Top PV PL mean mg mb base)
    (hA : A.frames = some (env :: outer)) (hf : env.frame = some L) (hke : env.scope.kind = .function) (hh : A.handled = none) (hd : A.depth + 6 < recursionLimit)
    (hl : s.heap.IsList l vs.toArray) (hi : IntsAre vs ns) (hn : vs.length ≤ 4096) (h1 : 1 ≤ vs.length)
    (ret : ∀ h' tk' r us e ks mx, Tn (frs (env :: outer)) s.heap h' → @LE.le Nat _ s.heap.objs.size r → h'.get? r = some (seqObj "list" us e) → IntsAre us.toList ks → (∃ i, i < (tally ns).length ∧ ((tally ns)[i]!).2 = mx) → (∀ j, j < (tally ns).length → ((tally ns)[j]!).2 ≤ mx) → ks = ((tally ns).filter fun p => decide (p.2 = mx)).map (·.1) → Q (.ref r) { s with heap := h', toks := tk' }) :
    wpAny (model PP w) A (call (.ref 301) [.ref l]) Q E s := by
  w_top off
  have : PySem.Challenge.rw_dm5011_01 = PySem.Challenge.rw_dm5011_01 ∧ Mine.hd.heap_39 = Mine.hd.heap_39 := by k_fill; exact ⟨rfl, rfl⟩
  clear this
  refine wpAny_call ?_
  k_dflt (refine' callSC B F X T hA hf hke ?k6 ?k7 ?k8 ?k9 ?kB ?kN ?_ ?c3 ?c4 ?c5; (case k6 => k_is); (case k7 => k_is); (case k8 => exact Nat.lt_of_le_of_lt (Nat.le_add_right _ _) hd); (case k9 => exact kp_binds (binds := [(Str.ofString "data", .ref l)]) (X.keeps F.keep) (fun _ => rfl)); (case c5 => exact rfl); (case kB => rfl); (case kN => decide +kernel); (case c3 => exact rfl); (case c4 => exact rfl))
  intro L' h' tk' cells F' eL' N' Y' B' X' T'
  have Y2 : CellsAre (fun _ => none) [(Str.ofString "maxcount", L' + 1)] cells := Y'
  obtain ⟨co, rfl, hco⟩ := Y2.one
  clear Y' Y2
  dsimp only
  clear B F X T
  try k_fold
  k_steps
  have hl' : h'.IsList l vs.toArray := let ⟨o, ho, r⟩ := hl; ⟨o, F'.keep l o ho, r⟩
  refine iter_call hl' ?_
  have F1 := F'.push (itObj l 0)
  have N1 := N'.push F' (itObj l 0)
  have hcI : ∀ q ∈ [((L' + 1, co) : Addr × Obj)], q.1 ≠ h'.objs.size := fun q hq => Nat.ne_of_lt (Heap.lt_size (N' q hq).1)
  clear F' N'
  dsimp only
  generalize h'.push (itObj l 0) = h2 at F1 N1 ⊢
  generalize h'.objs.size = I at N1 hcI ⊢
  k_steps
  refine counter_KC (ns := ns) B' F1 X' T' XB TB N1 hcI (deeper_frames hA) rfl rfl hh (show A.depth + 5 < recursionLimit from Nat.lt_of_succ_lt hd) hl hi hn ?_
  intro x dx h3 tk3 es n g3 KT F3 N3 B3 X3 T3 hce hxs hcd hdxx
  have hcd' : L' + 1 < dx := hcd _ (.head _)
  clear hcd
  clear B' X' T' F1 N1
  have hlen : vs.length = ns.length := hi.length
  have hne : ns ≠ [] := fun q => by rw [hlen, q] at h1; exact absurd h1 (by decide)
  have ht1 : 1 ≤ (tally ns).length := Nat.one_le_iff_ne_zero.mpr fun q => absurd (List.eq_nil_of_length_eq_zero q) (tally_ne hne)
  have ht2 : (tally ns).length ≤ 4096 := Nat.le_trans (tally_len ns) (hlen ▸ hn)
  k_steps
  rename_i h4 F4 N4
  have xd1 : ∀ h, (Mine.hd.heap_39 w.params).In h → Looks (model PP w) h (isSubtype (.ref 285) (.type "dict")) true := fun h Xh => looks_subIn Xh (by k_dflt k_is)
  have xd2 : ∀ h, (Mine.hd.heap_39 w.params).In h → Looks (model PP w) h (isSubtype (.ref 285) (.type "collections.OrderedDict")) false := fun h Xh => looks_subIn Xh (by k_dflt k_is)
  have xb : Looks (model PP w) h4 (typeLookup (.ref 285) (Str.ofString "__bool__")) none := looks_findIn (X3.keeps F4.keep) (by k_dflt k_is)
  have xl : Looks (model PP w) h4 (typeLookup (.ref 285) (Str.ofString "__len__")) (some (.builtin "dict.__len__")) := looks_findIn (X3.keeps F4.keep) (by k_dflt k_is)
  have hx4 := (N4 _ (.head _)).1
  have hdx4 := (N4 _ (.tail _ (.head _))).1
  refine truthy_counter hx4 (xd1 _ (X3.keeps F4.keep)) xb xl (Looks.of_pure (PySem.F.slot_dict_len.bind _)) (xd2 _ (X3.keeps F4.keep)) hxs (by rw [hce.size]; exact ht2) fun tk5 => ?_
  have hnz : ((es.size : Int) != 0) = true := by
    rw [hce.size]
    exact bne_iff_ne.mpr (by omega)
  rw [hnz]
  clear xb xl
  k_steps
  k_dflt (refine' method_D (K := Mine.hd.heap_39 w.params) (od := some (dictOf [] 0)) (X3.keeps F4.keep) ⟨hx4, rfl, rfl, hdx4⟩ ?k1 ?k2 ?k3 ?k4 ?k5 ?k6 ?k7 ?_; (case k1 => k_is); (case k2 => decide +kernel); (case k3 => k_is); (case k4 => k_is); (case k5 => exact rfl); (case k6 => decide +kernel); (case k7 => exact rfl))
  k_steps
  refine values_call hx4 (xd1 _ (X3.keeps F4.keep)) (xd2 _ (X3.keeps F4.keep)) hxs ?_
  have F5 := F4.push (viewObj "dict_values" x)
  have N5 := N4.push F4 (viewObj "dict_values" x)
  clear F4 N4 hx4 hdx4
  k_steps
  refine max_vals (A := A.deeper _) hh (N5 _ (.head _)).1 (N5 _ (.tail _ (.head _))).1 hce ht1 ?_
  intro h6 tk6 mx t6 st6 hmx1 hmx2
  have F6 := PyProof.Rows.Fr.kept F5 st6
  have N6 : News g3 L' h6 [(x, cntObj 285 dx es n), (dx, dictOf [] 0), (L' + 1, co)] := fun q hq => ⟨st6 _ _ (N5 q (.tail _ hq)).1, (N5 q (.tail _ hq)).2⟩
  clear F5 N5 st6
  refine storeX_C F6 N6 rfl (.tail (Nat.ne_of_gt (Nat.lt_trans hcd' hdxx)) (.tail (Nat.ne_of_gt hcd') (.head (fun q hq => nomatch hq)))) hco ?_ rfl rfl
  intro h7 co' F7 N7 hco7
  clear F6 N6 hco
  walk1
  walk1
  refine wpAny_Return_some ?_
  refine ListComp_gen (fun _ => rfl) (by with_unfolding_all rfl) rfl (by decide) ?_
  have hx7 := (N7 _ (.head _)).1
  have hdx7 := (N7 _ (.tail _ (.head _))).1
  have hco' := (N7 _ (.tail _ (.tail _ (.head _)))).1
  k_steps
  k_dflt (refine' method_D (K := Mine.hd.heap_39 w.params) (od := some (dictOf [] 0)) (X3.keeps F7.keep) ⟨hx7, rfl, rfl, hdx7⟩ ?k1 ?k2 ?k3 ?k4 ?k5 ?k6 ?k7 ?_; (case k1 => k_is); (case k2 => decide +kernel); (case k3 => k_is); (case k4 => k_is); (case k5 => exact rfl); (case k6 => decide +kernel); (case k7 => exact rfl))
  k_steps
  refine items_call hx7 (xd1 _ (X3.keeps F7.keep)) (xd2 _ (X3.keeps F7.keep)) hxs ?_
  refine comp_items (A := A.deeper _) hh rfl (by decide) rfl rfl (by decide) (fun _ => rfl) rfl (by decide) (by decide) (by decide) (Heap.get?_push_size _ rfl) (Heap.get?_push_of_some _ hx7) hce ht2 (Heap.get?_push_of_some _ hco') hco7 ?_
  intro h8 tk8 D us e st8 hD hDo hus
  dsimp only
  refine ret h8 tk8 D us.toArray e _ mx ((Tn.of_turn KT).trans (Tn.of_stays (fun b o q => st8 _ _ (Heap.get?_push_of_some _ (F7.keep b o q))))) ?_ hDo hus hmx1 hmx2 rfl
  have h9 := F7.above
  rw [KT.size] at h9
  have h10 := F7.ns.lt
  rw [Heap.size_push] at hD
  exact Nat.le_trans h9 (Nat.le_trans (Nat.le_of_lt h10) (Nat.le_trans (Nat.le_succ _) hD))
end Mine
end

/- text L8 -/
section
open PySem PySem.W PyProof.Rows PySem.Calls PyProof.V PySem.Spec
set_option maxRecDepth 100000
namespace Mine
noncomputable abbrev lawM8 (L fa : Addr) (cd : Value) (l r nb : Addr) (n : Int) (kd sz : Int) (t1 t2 t3 : Tok) (pi : Option Value) (du tr : Addr) : Str → Option Value := fun y => if y = Str.ofString "told" then some (.ref tr) else lawM7 L fa cd l r nb n kd sz t1 t2 t3 pi du y
set_option maxHeartbeats 4000000 in
theorem law8 {w : World} {mean : ExcName → Option Value} {mg mb : Str → Option Value} {A : Around} {base h₀ : Heap} {L fa : Addr} {cd : Value} {s : Shared} {Q : Flow → Shared → Prop} {l r nb sm ln du : Addr} {us ss lv yd : List Value} {e1 e2 e3 : Nat} {c1 c2 c3 c4 c5 c6 : Obj}
    {t1 t2 t3 : Tok} {n : Nat} {kd sz mx : Int} {pi : Option Value} {S : List Int}
    (B : Below A base [] h₀) (F : Fr h₀ L s.heap (lawM7 L fa cd l r nb n kd sz t1 t2 t3 pi du)) (X : (Mine.hd.heap_39 w.params).In h₀) (T : Top PV PL mean mg mb h₀) (XB : (Mine.hd.heap_39 w.params).In base) (TB : Top PV PL mean mg mb base)
    (hh : A.handled = none) (hd : A.depth + 200 < recursionLimit) (hun : A.units + 300 < cLine)
    (N : News h₀ L s.heap [(du, LCg.lst yd), (ln, listOf lv.toArray e3), (sm, listOf ss.toArray e2), (nb, listOf us.toArray e1), (L + 6, c6), (L + 5, c5), (L + 4, c4), (L + 3, c3), (L + 2, c2), (L + 1, c1)])
    (hc1 : c1.data = .cell (some (.ref sm))) (hss : IntsAre ss S) (hsl : ss.length ≤ 1024) (hs1 : 1 ≤ ss.length) (hyd : IntsAre yd (modes S mx))
    (hx1 : ∃ i, i < (tally S).length ∧ ((tally S)[i]!).2 = mx) (hx2 : ∀ j, j < (tally S).length → ((tally S)[j]!).2 ≤ mx)
    (k : ∀ g' h tk tr ut e, Below A base [] g' → Fr g' L h (lawM8 L fa cd l r nb n kd sz t1 t2 t3 pi du tr) → News g' L h [(tr, listOf ut.toArray e), (ln, listOf lv.toArray e3), (sm, listOf ss.toArray e2), (nb, listOf us.toArray e1), (L + 6, c6), (L + 5, c5), (L + 4, c4), (L + 3, c3), (L + 2, c2), (L + 1, c1)] → (Mine.hd.heap_39 w.params).In g' → Top PV PL mean mg mb g' → IntsAre ut (modes S mx) →
      wpAny (model PP w) (A.deeper (lawEnv L fa cd)) (execs (lawFrom 15) (lawEnv L fa cd)) Q (fun _ _ => False) { s with heap := h, toks := tk }) :
    wpAny (model PP w) (A.deeper (lawEnv L fa cd)) (execs (lawFrom 13) (lawEnv L fa cd)) Q (fun _ _ => False) s := by
  w_top off
  have : PySem.Challenge.rw_dm5011_01 = PySem.Challenge.rw_dm5011_01 ∧ Mine.hd.heap_39 = Mine.hd.heap_39 := by k_fill; exact ⟨rfl, rfl⟩
  clear this
  have hB1 : lawSt 13 = lawSt 13 := rfl
  conv at hB1 => rhs; whnf
  have hB2 : lawSt 14 = lawSt 14 := rfl
  conv at hB2 => rhs; whnf
  have hS : lawScope = lawScope := rfl
  conv at hS => rhs; whnf
  rw [law_drop 13 (by decide), law_drop 14 (by decide), hB1, hB2]
  generalize lawFrom 15 = rest at k ⊢
  unfold lawM7 lawM5 lawM0 lawEnv at *
  simp only [hS] at F ⊢
  clear hB1 hB2
  k_steps
  rename_i D1 _ h1 F1 N1 l1
  have hl1 : h1.IsList D1 ss.toArray := ⟨_, (N1 _ (.head _)).1, rfl, _, rfl⟩
  refine mm_call (ns := S) B F1 X T XB TB (deeper_frames B.stack) rfl rfl hh (show A.depth + 1 + 6 < recursionLimit from by omega) hl1 hss (by omega) (by omega) ?_
  intro h2 tk2 tr ut et ks mx' Tn2 ler hro hut hm1 hm2 hks
  obtain rfl : mx' = mx := max_uniq hm1 hm2 hx1 hx2
  rw [mm_eq] at hks
  subst hks
  obtain ⟨ul, rfl⟩ : ∃ ul : List Value, ut = ul.toArray := ⟨ut.toList, Array.toArray_toList.symm⟩
  have hul : IntsAre ul (modes S mx') := hut
  obtain ⟨g2, KT2, F2, B2⟩ := reground B F1 rfl Tn2
  have N2' := Mine.News.turn B rfl N1 Tn2 KT2
  have hrn := kdx_fresh F1 ler
  have N2 : News g2 L h2 [(tr, listOf ul.toArray et), (du, LCg.lst yd), (ln, listOf lv.toArray e3), (sm, listOf ss.toArray e2), (nb, listOf us.toArray e1), (L + 6, c6), (L + 5, c5), (L + 4, c4), (L + 3, c3), (L + 2, c2), (L + 1, c1)] := fun q hq => by
    rcases List.mem_cons.mp hq with rfl | hq
    · exact ⟨hro, hrn.1, KT2.none_ _ hrn.2⟩
    · exact N2' q (.tail _ hq)
  have X2 := XB.keeps B2.stays
  have T2 := TB.keeps B2.stays
  clear B F1 N1 X T N2' hl1 Tn2 KT2 hro hrn ler
  iterate 8 walk1
  rename_i h3 F3 N3
  refine ne_intsK (vs := ul) (us := yd) ⟨_, (N3 _ (.head _)).1, rfl, _, rfl⟩ hul ⟨_, (N3 _ (.tail _ (.head _))).1, rfl, _, rfl⟩ hyd ?_ ?_
  · show A.units + _ + 64 < cLine
    omega
  rw [decide_eq_true rfl]
  simp only [Bool.not_true]
  k_steps
  rename_i D5 _ h5 F5 N5 l5
  have hl5 : h5.IsList D5 ss.toArray := ⟨_, (N5 _ (.head _)).1, rfl, _, rfl⟩
  refine mode_call (ns := S) B2 F5 X2 T2 XB TB (deeper_frames B2.stack) rfl rfl hh (show A.depth + 1 + 6 < recursionLimit from by omega) hl5 hss (by omega) (by omega) ?_
  intro h6 tk6 k6 t6 Tn6 hfm
  have hk0 := mode_first hx1 hx2 hfm
  have hk1 : (modes S mx').getD 0 0 = k6 := by rw [List.getD_eq_getElem?_getD, hk0]; rfl
  have hyl : yd.length = (modes S mx').length := hyd.length
  have hyl1 : 1 ≤ yd.length := by
    have := (List.getElem?_eq_some_iff.mp hk0).1
    omega
  obtain ⟨g6, KT6, F6, B6⟩ := reground B2 F5 rfl Tn6
  have N6 := Mine.News.turn B2 rfl N5 Tn6 KT6
  have X6 := XB.keeps B6.stays
  have T6 := TB.keeps B6.stays
  clear B2 F5 N5 X2 T2 hl5 Tn6 KT6 l5 hfm hx1 hx2 hm1 hm2
  k_steps
  · rename_i hne
    exact absurd hk1.symm hne
  · exact k g6 h6 _ tr ul et B6 F6 (fun q hq => by
      rcases List.mem_cons.mp hq with rfl | hq
      · exact N6 _ (.tail _ (.head _))
      · exact N6 _ (.tail _ (.tail _ (.tail _ hq)))) X6 T6 hul
end Mine
end

/- text L9a -/
section
open PySem PySem.W PyProof.Rows PySem.Calls PyProof.V PySem.Spec
set_option maxRecDepth 100000
namespace Mine
def absI (a : Int) : Int := if a < 0 then -a else a
section
variable {prog : Program} {w : World} {A : Around} {E : Value → Shared → Prop} {s : Shared} {h₀ : Heap} {L : Addr} {m : Str → Option Value} {news : List (Addr × Obj)}
theorem min_list {l : Addr} {vs : List Value} {ns : List Int} {Q : Value → Shared → Prop} (hh : A.handled = none) (F : Fr h₀ L s.heap m) (N : News h₀ L s.heap news) (hl : s.heap.IsList l vs.toArray) (hi : IntsAre vs ns) (hn : 0 < vs.length)
    (hq : ∀ h' tk' mn t, Fr h₀ L h' m → News h₀ L h' news → mn ∈ ns → (∀ x ∈ ns, mn ≤ x) → Q (.int mn t) { s with heap := h', toks := tk' }) :
    wpAny (model prog w) A (call (.builtin "min") [.ref l]) Q E s := by
  have hlen : vs.length = ns.length := hi.length
  have hlt : l < s.heap.objs.size := by obtain ⟨_, e, _⟩ := hl; exact Heap.lt_size e
  have hval : ∀ (i : Nat) (x : Value), vs.toArray[i]? = some x → i < ns.length ∧ ∃ t, x = .int ns[i]! t := fun i x e => by
    have e' : vs[i]? = some x := by simpa using e
    have hi' : i < vs.length := (List.getElem?_eq_some_iff.mp e').1
    obtain ⟨t, q⟩ := ints_get hi hi'
    rw [List.getElem?_eq_getElem hi', q] at e'
    exact ⟨hlen ▸ hi', t, (Option.some.inj e').symm⟩
  refine call_min_walk (wpAny_pyIter_list hl ?_)
  refine ⟨s.heap.objs.size, [s.heap.objs.size, l], [s.heap.objs.size], vs.toArray.size, _, _, fun i j => decide (ns[i]! < ns[j]!), rfl, Walks.list (A := A.in1) hh _ l (Nat.ne_of_lt hlt) vs.toArray, ⟨⟨_, Heap.get?_push_size _ rfl, rfl, rfl⟩, hl.push _⟩, ?_, by simpa using hn, ?_, ?_⟩
  · intro b hb
    show b < (s.heap.push _).objs.size
    rw [Heap.size_push]
    rcases List.mem_cons.mp hb with rfl | hb
    · exact Nat.lt_succ_self _
    · rw [List.mem_singleton.mp hb]; exact Nat.lt_succ_of_lt hlt
  · rintro i j vi vj s' Q' E' e1 e2 q
    obtain ⟨_, t, rfl⟩ := hval i _ e1
    obtain ⟨_, u, rfl⟩ := hval j _ e2
    exact (show wpAny _ _ (compareOp .Lt _ _) _ _ _ from PyProof.Rows.lt_int q)
  · rintro vv h' tk' e1 hk
    obtain ⟨hb, t, rfl⟩ := hval _ _ e1
    obtain ⟨b1, b2⟩ := argBest_lt (fun i => ns[i]!) (vs.toArray.size - 1)
    have keep : ∀ b o, s.heap.get? b = some o → h'.get? b = some o := fun b o e => hk b o (fun z => by
      rw [List.mem_singleton] at z
      have := Heap.lt_size e
      rw [z] at this; exact Nat.lt_irrefl _ this) (Heap.get?_push_of_some _ e)
    refine hq h' tk' _ t (F.keeps keep) (N.grown keep) (by rw [getElem!_pos ns _ hb]; exact List.getElem_mem _) fun x hx => ?_
    obtain ⟨j, hj, rfl⟩ := List.getElem_of_mem hx
    have := b2 j (by rw [List.size_toArray]; omega)
    rw [getElem!_pos ns j hj] at this
    exact this
theorem max_list {l : Addr} {vs : List Value} {ns : List Int} {Q : Value → Shared → Prop} (hh : A.handled = none) (F : Fr h₀ L s.heap m) (N : News h₀ L s.heap news) (hl : s.heap.IsList l vs.toArray) (hi : IntsAre vs ns) (hn : 0 < vs.length)
    (hq : ∀ h' tk' mx t, Fr h₀ L h' m → News h₀ L h' news → mx ∈ ns → (∀ x ∈ ns, x ≤ mx) → Q (.int mx t) { s with heap := h', toks := tk' }) :
    wpAny (model prog w) A (call (.builtin "max") [.ref l]) Q E s := by
  have hlen : vs.length = ns.length := hi.length
  have hlt : l < s.heap.objs.size := by obtain ⟨_, e, _⟩ := hl; exact Heap.lt_size e
  have hval : ∀ (i : Nat) (x : Value), vs.toArray[i]? = some x → i < ns.length ∧ ∃ t, x = .int ns[i]! t := fun i x e => by
    have e' : vs[i]? = some x := by simpa using e
    have hi' : i < vs.length := (List.getElem?_eq_some_iff.mp e').1
    obtain ⟨t, q⟩ := ints_get hi hi'
    rw [List.getElem?_eq_getElem hi', q] at e'
    exact ⟨hlen ▸ hi', t, (Option.some.inj e').symm⟩
  refine call_max_walk (wpAny_pyIter_list hl ?_)
  refine ⟨s.heap.objs.size, [s.heap.objs.size, l], [s.heap.objs.size], vs.toArray.size, _, _, fun i j => decide (ns[i]! > ns[j]!), rfl, Walks.list (A := A.in1) hh _ l (Nat.ne_of_lt hlt) vs.toArray, ⟨⟨_, Heap.get?_push_size _ rfl, rfl, rfl⟩, hl.push _⟩, ?_, by simpa using hn, ?_, ?_⟩
  · intro b hb
    show b < (s.heap.push _).objs.size
    rw [Heap.size_push]
    rcases List.mem_cons.mp hb with rfl | hb
    · exact Nat.lt_succ_self _
    · rw [List.mem_singleton.mp hb]; exact Nat.lt_succ_of_lt hlt
  · rintro i j vi vj s' Q' E' e1 e2 q
    obtain ⟨_, t, rfl⟩ := hval i _ e1
    obtain ⟨_, u, rfl⟩ := hval j _ e2
    exact (show wpAny _ _ (compareOp .Gt _ _) _ _ _ from PyProof.Rows.gt_int q)
  · rintro vv h' tk' e1 hk
    obtain ⟨hb, t, rfl⟩ := hval _ _ e1
    obtain ⟨b1, b2⟩ := argBest_gt (fun i => ns[i]!) (vs.toArray.size - 1)
    have keep : ∀ b o, s.heap.get? b = some o → h'.get? b = some o := fun b o e => hk b o (fun z => by
      rw [List.mem_singleton] at z
      have := Heap.lt_size e
      rw [z] at this; exact Nat.lt_irrefl _ this) (Heap.get?_push_of_some _ e)
    refine hq h' tk' _ t (F.keeps keep) (N.grown keep) (by rw [getElem!_pos ns _ hb]; exact List.getElem_mem _) fun x hx => ?_
    obtain ⟨j, hj, rfl⟩ := List.getElem_of_mem hx
    have := b2 j (by rw [List.size_toArray]; omega)
    rw [getElem!_pos ns j hj] at this
    exact this
end
end Mine
end

/- text L9 -/
section
open PySem PySem.W PyProof.Rows PySem.Calls PyProof.V PySem.Spec
set_option maxRecDepth 100000
namespace Mine
noncomputable abbrev lawM9 (L fa : Addr) (cd : Value) (l r nb : Addr) (n : Int) (kd sz : Int) (t1 t2 t3 : Tok) (pi : Option Value) (du tr : Addr) (al : Bool) : Str → Option Value := fun y => if y = Str.ofString "alike" then some (.bool al) else lawM8 L fa cd l r nb n kd sz t1 t2 t3 pi du tr y
set_option maxHeartbeats 4000000 in
theorem law9 {w : World} {mean : ExcName → Option Value} {mg mb : Str → Option Value} {A : Around} {base h₀ : Heap} {L fa : Addr} {cd : Value} {s : Shared} {Q : Flow → Shared → Prop} {l r nb sm ln du tr : Addr} {us ss lv ut : List Value} {e1 e2 e3 e4 : Nat} {c1 c2 c3 c4 c5 c6 : Obj}
    {t1 t2 t3 : Tok} {n : Nat} {kd sz : Int} {pi v6 : Option Value} {xs : List Int}
    (B : Below A base [] h₀) (F : Fr h₀ L s.heap (lawM8 L fa cd l r nb n kd sz t1 t2 t3 pi du tr)) (X : (Mine.hd.heap_39 w.params).In h₀) (T : Top PV PL mean mg mb h₀)
    (hh : A.handled = none) (hd : A.depth + 200 < recursionLimit) (hun : A.units + 300 < cLine)
    (N : News h₀ L s.heap [(tr, listOf ut.toArray e4), (ln, listOf lv.toArray e3), (sm, listOf ss.toArray e2), (nb, listOf us.toArray e1), (L + 6, c6), (L + 5, c5), (L + 4, c4), (L + 3, c3), (L + 2, c2), (L + 1, c1)])
    (l1 : @LT.lt Nat _ (L + 6) nb ∧ @LT.lt Nat _ nb sm ∧ @LT.lt Nat _ sm ln ∧ @Ne Nat tr (L + 6) ∧ @Ne Nat tr (L + 5) ∧ @Ne Nat tr (L + 4) ∧ @Ne Nat tr (L + 3) ∧ @Ne Nat tr (L + 2) ∧ @Ne Nat tr (L + 1))
    (hc6 : c6.data = .cell v6) (hus : IntsAre us xs) (hul : us.length ≤ 7) (hul1 : 1 ≤ us.length)
    (k : ∀ h tk mn tn mxx o6, Fr h₀ L h (lawM9 L fa cd l r nb n kd sz t1 t2 t3 pi du tr (mxx == mn)) → News h₀ L h [(tr, listOf ut.toArray e4), (ln, listOf lv.toArray e3), (sm, listOf ss.toArray e2), (nb, listOf us.toArray e1), (L + 6, o6), (L + 5, c5), (L + 4, c4), (L + 3, c3), (L + 2, c2), (L + 1, c1)] → o6.data = .cell (some (.int mn tn)) →
      mn ∈ xs.map absI → (∀ x ∈ xs.map absI, mn ≤ x) → mxx ∈ xs.map absI → (∀ x ∈ xs.map absI, x ≤ mxx) →
      wpAny (model PP w) (A.deeper (lawEnv L fa cd)) (execs (lawFrom 17) (lawEnv L fa cd)) Q (fun _ _ => False) { s with heap := h, toks := tk }) :
    wpAny (model PP w) (A.deeper (lawEnv L fa cd)) (execs (lawFrom 15) (lawEnv L fa cd)) Q (fun _ _ => False) s := by
  w_top off
  have : PySem.Challenge.rw_dm5011_01 = PySem.Challenge.rw_dm5011_01 ∧ Mine.hd.heap_39 = Mine.hd.heap_39 := by k_fill; exact ⟨rfl, rfl⟩
  clear this
  have hB1 : lawSt 15 = lawSt 15 := rfl
  conv at hB1 => rhs; whnf
  have hB2 : lawSt 16 = lawSt 16 := rfl
  conv at hB2 => rhs; whnf
  have hS : lawScope = lawScope := rfl
  conv at hS => rhs; whnf
  rw [law_drop 15 (by decide), law_drop 16 (by decide), hB1, hB2]
  generalize lawFrom 17 = rest at k ⊢
  unfold lawM8 lawM7 lawM5 lawM0 lawEnv at *
  simp only [hS] at F ⊢
  clear hB1 hB2
  iterate 6 walk1
  refine LCg.ListComp_U (F₀ := by assumption) (by with_unfolding_all rfl) (by decide) (by rfl) (by decide) (by rfl) ?_
  k_steps
  have hmem : (nb, listOf us.toArray e1) ∈ [(tr, listOf ut.toArray e4), (ln, listOf lv.toArray e3), (sm, listOf ss.toArray e2), (nb, listOf us.toArray e1), (L + 6, c6), (L + 5, c5), (L + 4, c4), (L + 3, c3), (L + 2, c2), (L + 1, c1)] := .tail _ (.tail _ (.tail _ (.head _)))
  refine LCg.CompSrc.ledger hh F N hmem (by rw [List.size_toArray, sizeLine_eq]; omega) (fun g => ?_)
  refine rest_map (ns := xs) absI (by simpa using hus) (.inr ⟨_, hmem, rfl, _, rfl⟩) ?_ ?_ _ 0 [] rfl (Nat.zero_le _) .nil
  · intro n' t' I' oI C oC D oD m₂ h tk E' Q' hC hm F N q
    k_steps
    exact q _ _
  intro ys hys
  have hyl : ys.length = us.length := by have := hys.length; rw [List.length_map, ← hus.length] at this; exact this
  intro D h tk F N off
  k_steps
  refine min_list hh F N ⟨_, (N _ (.head _)).1, rfl, _, rfl⟩ hys (by omega) ?_
  intro h2 tk2 mn tn F2 N2' hmn1 hmn2
  have N2 : News h₀ L h2 [(tr, listOf ut.toArray e4), (ln, listOf lv.toArray e3), (sm, listOf ss.toArray e2), (nb, listOf us.toArray e1), (L + 6, c6), (L + 5, c5), (L + 4, c4), (L + 3, c3), (L + 2, c2), (L + 1, c1)] := fun q hq => N2' q (.tail _ hq)
  clear F N N2' off hmem
  iterate 9 walk1
  rename_i h3 o6 F3 N3' d6
  have N3 : News h₀ L h3 [(tr, listOf ut.toArray e4), (ln, listOf lv.toArray e3), (sm, listOf ss.toArray e2), (nb, listOf us.toArray e1), (L + 6, o6), (L + 5, c5), (L + 4, c4), (L + 3, c3), (L + 2, c2), (L + 1, c1)] := N3'
  clear N3'
  refine LCg.ListComp_U (F₀ := by assumption) (by with_unfolding_all rfl) (by decide) (by rfl) (by decide) (by rfl) ?_
  k_steps
  have hmem : (nb, listOf us.toArray e1) ∈ [(tr, listOf ut.toArray e4), (ln, listOf lv.toArray e3), (sm, listOf ss.toArray e2), (nb, listOf us.toArray e1), (L + 6, o6), (L + 5, c5), (L + 4, c4), (L + 3, c3), (L + 2, c2), (L + 1, c1)] := .tail _ (.tail _ (.tail _ (.head _)))
  refine LCg.CompSrc.ledger hh F3 N3 hmem (by rw [List.size_toArray, sizeLine_eq]; omega) (fun g => ?_)
  refine rest_map (ns := xs) absI (by simpa using hus) (.inr ⟨_, hmem, rfl, _, rfl⟩) ?_ ?_ _ 0 [] rfl (Nat.zero_le _) .nil
  · intro n' t' I' oI C oC D oD m₂ h tk E' Q' hC hm F N q
    k_steps
    exact q _ _
  intro ys2 hys2
  have hyl2 : ys2.length = us.length := by have := hys2.length; rw [List.length_map, ← hus.length] at this; exact this
  intro D h tk F N off
  k_steps
  refine max_list hh F N ⟨_, (N _ (.head _)).1, rfl, _, rfl⟩ hys2 (by omega) ?_
  intro h4 tk4 mxx tx F4 N4' hmx1 hmx2
  have N4 : News h₀ L h4 [(tr, listOf ut.toArray e4), (ln, listOf lv.toArray e3), (sm, listOf ss.toArray e2), (nb, listOf us.toArray e1), (L + 6, o6), (L + 5, c5), (L + 4, c4), (L + 3, c3), (L + 2, c2), (L + 1, c1)] := fun q hq => N4' q (.tail _ hq)
  clear F N N4' off hmem F3 N3
  k_steps
  rename_i h5 F5 N5
  exact k h5 _ mn tn mxx o6 F5 N5 d6 hmn1 hmn2 hmx1 hmx2
end Mine
end

/- text L10 -/
section
open PySem PySem.W PyProof.Rows PySem.Calls PyProof.V PySem.Spec
set_option maxRecDepth 100000
namespace Mine
set_option maxHeartbeats 4000000 in
theorem law10 {w : World} {mean : ExcName → Option Value} {mg mb : Str → Option Value} {A : Around} {base h₀ : Heap} {L fa : Addr} {cd : Value} {s : Shared} {Q : Flow → Shared → Prop} {l r nb sm ln du tr : Addr} {us ss lv ut : List Value} {e1 e2 e3 e4 : Nat} {c1 c2 c3 c4 c5 c6 : Obj}
    {t1 t2 t3 tm : Tok} {n : Nat} {kd sz mx : Int} {pi : Option Value} {al : Bool}
    (B : Below A base [] h₀) (F : Fr h₀ L s.heap (lawM9 L fa cd l r nb n kd sz t1 t2 t3 pi du tr al)) (X : (Mine.hd.heap_39 w.params).In h₀) (T : Top PV PL mean mg mb h₀)
    (hh : A.handled = none) (hd : A.depth + 200 < recursionLimit) (hun : A.units + 300 < cLine)
    (N : News h₀ L s.heap [(tr, listOf ut.toArray e4), (ln, listOf lv.toArray e3), (sm, listOf ss.toArray e2), (nb, listOf us.toArray e1), (L + 6, c6), (L + 5, c5), (L + 4, c4), (L + 3, c3), (L + 2, c2), (L + 1, c1)])
    (hc5 : c5.data = .cell (some (.int mx tm))) (hc3 : c3.data = .cell (some (.ref ln))) (hlv : IntsAre lv (rowI n)) (hn1 : 1 ≤ n) (hnb : Bnd n)
    (hle : mx ≤ (rowI n)[n / 2]!) (hiff : decide (mx = (rowI n)[n / 2]!) = al)
    (k : ∀ tk, wpAny (model PP w) (A.deeper (lawEnv L fa cd)) (execs (lawFrom 18) (lawEnv L fa cd)) Q (fun _ _ => False) { s with toks := tk }) :
    wpAny (model PP w) (A.deeper (lawEnv L fa cd)) (execs (lawFrom 17) (lawEnv L fa cd)) Q (fun _ _ => False) s := by
  w_top off
  have : PySem.Challenge.rw_dm5011_01 = PySem.Challenge.rw_dm5011_01 ∧ Mine.hd.heap_39 = Mine.hd.heap_39 := by k_fill; exact ⟨rfl, rfl⟩
  clear this
  have hB1 : lawSt 17 = lawSt 17 := rfl
  conv at hB1 => rhs; whnf
  have hS : lawScope = lawScope := rfl
  conv at hS => rhs; whnf
  rw [law_drop 17 (by decide), hB1]
  generalize lawFrom 18 = rest at k ⊢
  unfold lawM9 lawM8 lawM7 lawM5 lawM0 lawEnv at *
  simp only [hS] at F ⊢
  clear hB1
  have hlen : lv.length = (rowI n).length := hlv.length
  have hlen2 : (rowI n).length = n + 1 := rowI_len n
  have hlb : lv.length ≤ 200 := by unfold Bnd at hnb; omega
  have hfd : ((n : Int).fdiv 2) = ((n / 2 : Nat) : Int) := by rw [Int.fdiv_eq_ediv_of_nonneg _ (by decide)]; omega
  have hgd : (rowI n).getD ((n : Int).fdiv 2).toNat 0 = (rowI n)[n / 2]! := by rw [hfd, Int.toNat_natCast]; simp [List.getD_eq_getElem?_getD, List.getElem!_eq_getElem?_getD]
  k_steps
  · rename_i hc
    have z : (mx == (rowI n)[n / 2]!) = decide (mx = (rowI n)[n / 2]!) := by
      by_cases q : mx = (rowI n)[n / 2]!
      · rw [decide_eq_true q]; exact beq_iff_eq.mpr q
      · rw [decide_eq_false q]; exact beq_eq_false_iff_ne.mpr q
    rw [← hiff, hgd, z, bne_self_eq_false] at hc
    cases hc
  · exact k _
end Mine
end

/- text L11a -/
section
open PySem PySem.W PyProof.Rows PySem.Calls PyProof.V PySem.Spec
set_option maxRecDepth 100000
namespace Mine
section
variable {prog : Program} {w : World} {A : Around} {h₀ : Heap} {L : Addr} {m : Str → Option Value} {env : Env}
/-- as rest_map, with the number's membership -/
theorem rest_mapM {elt : PySem.Expr} {x : Str} {scope : Scope} {cl : List (Str × Addr)} {s : Shared} {ax : Addr} {its : Array Value} {Fin : List Value → List (Addr × Obj) → Prop} {news : List (Addr × Obj)} {ns : List Int} (f : Int → Int) (hi : IntsAre its.toList ns) (hS : LCg.SrcAt h₀ ax its news)
    (turn : ∀ n t I oI C oC D oD m₂ h tk (E' : Value → Shared → Prop) (Q' : Value → Shared → Prop), n ∈ ns → LCg.NsObj oC m₂ → m₂ x = some (.int n t) → Fr h₀ L h m → News h₀ L h ((I, oI) :: (C, oC) :: (D, oD) :: news) → (∀ tk' u, Q' (.int (f n) u) { s with heap := h, toks := tk' }) →
      wpAny (model prog w) A (eval elt (compEnvC scope cl C env)) Q' E' { s with heap := h, toks := tk })
    (fin : ∀ ys, IntsAre ys (ns.map f) → Fin ys news) :
    ∀ k i ys, its.size - i = k → i ≤ its.size → IntsAre ys ((ns.take i).map f) → LCg.CompRest prog w A h₀ L m env elt x scope cl s (LCg.SrcAt h₀ ax its) (fun i v => its[i]? = some v) Fin k i ys news := by
  have hlen : its.size = ns.length := by have := hi.length; simpa using this
  intro k
  induction k with
  | zero =>
    intro i ys hk hle hys
    refine LCg.CompRest.zero (fin ys ?_)
    rwa [List.take_of_length_le (by omega)] at hys
  | succ k ih =>
    intro i ys hk hle hys
    refine LCg.CompRest.succ fun v I oI C oC D m₂ h tk E' hv hC hm F N off ne => ?_
    have hlt : i < ns.length := by omega
    obtain ⟨t, rfl⟩ : ∃ t, v = .int ns[i] t := by
      have hl : i < its.toList.length := by simp; omega
      obtain ⟨t, e⟩ := ints_get hi hl
      have : its[i]? = some its.toList[i] := by rw [← Array.getElem?_toList]; exact List.getElem?_eq_getElem hl
      rw [this] at hv
      exact ⟨t, by rw [← Option.some.inj hv, e, List.getElem!_eq_getElem?_getD, List.getElem?_eq_getElem hlt]; rfl⟩
    refine turn ns[i] t I oI C oC D _ m₂ h tk E' _ (List.getElem_mem hlt) hC hm F N fun tk' u => ?_
    refine ⟨h, tk', news, rfl, F, N, off, hS, ih (i + 1) _ (by omega) (by omega) ?_⟩
    rw [List.take_add_one, List.getElem?_eq_getElem hlt, Option.toList_some, List.map_append]
    exact hys.append (.cons _ _ .nil)
end
theorem mulOk_small {a b : Int} (h : -64 ≤ b ∧ b ≤ 64) : IntMulOk a b := by mul_fits
theorem mulOk_small' {a b : Int} (h : -64 ≤ a ∧ a ≤ 64) : IntMulOk a b := by mul_fits
end Mine
end

/- text L11 -/
section
open PySem PySem.W PyProof.Rows PySem.Calls PyProof.V PySem.Spec
set_option maxRecDepth 100000
namespace Mine
set_option maxHeartbeats 4000000 in
theorem law11 {w : World} {mean : ExcName → Option Value} {mg mb : Str → Option Value} {A : Around} {base h₀ : Heap} {L fa : Addr} {cd : Value} {s : Shared} {Q : Flow → Shared → Prop} {l r nb sm ln du tr : Addr} {us ss lv ut : List Value} {e1 e2 e3 e4 : Nat} {c1 c2 c3 c4 c5 c6 : Obj}
    {t1 t2 t3 tn : Tok} {n : Nat} {kd sz mn : Int} {pi : Option Value} {xs ks : List Int}
    (B : Below A base [] h₀) (F : Fr h₀ L s.heap (lawM9 L fa cd l r nb n kd sz t1 t2 t3 pi du tr true)) (X : (Mine.hd.heap_39 w.params).In h₀) (T : Top PV PL mean mg mb h₀)
    (hh : A.handled = none) (hd : A.depth + 200 < recursionLimit) (hun : A.units + 300 < cLine)
    (N : News h₀ L s.heap [(tr, listOf ut.toArray e4), (ln, listOf lv.toArray e3), (sm, listOf ss.toArray e2), (nb, listOf us.toArray e1), (L + 6, c6), (L + 5, c5), (L + 4, c4), (L + 3, c3), (L + 2, c2), (L + 1, c1)])
    (hc6 : c6.data = .cell (some (.int mn tn))) (hus : IntsAre us xs) (hul : us.length ≤ 7) (hut : IntsAre ut ks) (hkl : ut.length ≤ 2) (hn1 : 1 ≤ n) (hnb : Bnd n) (hnx : xs.length ≤ 7)
    (hmid : ∀ ms : List Int, ms.Perm ks → ms.Pairwise (· ≤ ·) → ms = (if (n : Int).fmod 2 = 0 then [(n : Int).fdiv 2 - negs xs] else [(n : Int).fdiv 2 - negs xs, (n : Int).fdiv 2 + 1 - negs xs]).map (fun p => mn * p))
    (k : ∀ h tk m', Fr h₀ L h m' → News h₀ L h [(tr, listOf ut.toArray e4), (ln, listOf lv.toArray e3), (sm, listOf ss.toArray e2), (nb, listOf us.toArray e1), (L + 6, c6), (L + 5, c5), (L + 4, c4), (L + 3, c3), (L + 2, c2), (L + 1, c1)] →
      wpAny (model PP w) (A.deeper (lawEnv L fa cd)) (execs (lawFrom 19) (lawEnv L fa cd)) Q (fun _ _ => False) { s with heap := h, toks := tk }) :
    wpAny (model PP w) (A.deeper (lawEnv L fa cd)) (execs (lawFrom 18) (lawEnv L fa cd)) Q (fun _ _ => False) s := by
  w_top off
  have : PySem.Challenge.rw_dm5011_01 = PySem.Challenge.rw_dm5011_01 ∧ Mine.hd.heap_39 = Mine.hd.heap_39 := by k_fill; exact ⟨rfl, rfl⟩
  clear this
  have hB1 : lawSt 18 = lawSt 18 := rfl
  conv at hB1 => rhs; whnf
  have hS : lawScope = lawScope := rfl
  conv at hS => rhs; whnf
  rw [law_drop 18 (by decide), hB1]
  generalize lawFrom 19 = rest at k ⊢
  unfold lawM9 lawM8 lawM7 lawM5 lawM0 lawEnv at *
  simp only [hS] at F ⊢
  clear hB1
  iterate 12 walk1
  refine LCt.ListComp_T (F₀ := by assumption) (by with_unfolding_all rfl) (by decide) (by rfl) (by decide) (by rfl) ?_
  k_steps
  have hmem : (nb, listOf us.toArray e1) ∈ [(tr, listOf ut.toArray e4), (ln, listOf lv.toArray e3), (sm, listOf ss.toArray e2), (nb, listOf us.toArray e1), (L + 6, c6), (L + 5, c5), (L + 4, c4), (L + 3, c3), (L + 2, c2), (L + 1, c1)] := .tail _ (.tail _ (.tail _ (.head _)))
  refine LCt.CompSrcT.ledger hh F N hmem (by rw [List.size_toArray, sizeLine_eq]; omega) (fun g => ?_)
  have hux : us.toArray.size = xs.length := by rw [List.size_toArray]; exact hus.length
  rw [hux]
  refine rest_filter (xs := xs) (fun x => decide (x < 0)) ?_ (.inr ⟨_, hmem, rfl, _, rfl⟩) ?_ ?_ ?_ _ 0 [] rfl (Nat.zero_le _) .nil
  · intro i v e
    have e' : us[i]? = some v := by simpa using e
    have hi' : i < us.length := (List.getElem?_eq_some_iff.mp e').1
    obtain ⟨t, q⟩ := ints_get hus hi'
    rw [List.getElem?_eq_getElem hi', q] at e'
    exact ⟨t, (Option.some.inj e').symm⟩
  · intro i t I oI C oC D oD m₂ h tk E' Q' hlt hC hm F N q
    generalize xs[i]! = key at *
    k_steps
    exact q _
  · intro i t I oI C oC D oD m₂ h tk E' Q' hlt hC hm F N q
    generalize xs[i]! = key at *
    k_steps
    exact q _
  intro ys hys D h tk F N off
  have hyl : ys.length = negs xs := by have := hys.length; exact this
  have hyb : ys.length ≤ 7 := by
    rw [hyl]
    have := List.length_filter_le (fun x : Int => decide (x < 0)) xs
    rw [hus.length] at hul
    exact Nat.le_trans this hul
  k_steps
  refine len_list (items := ys.toArray) ⟨_, (N _ (.head _)).1, rfl, _, rfl⟩ (by rw [List.size_toArray]; omega) ?_
  rw [List.size_toArray, hyl]
  have hfd : ((n : Int).fdiv 2) = ((n / 2 : Nat) : Int) := by rw [Int.fdiv_eq_ediv_of_nonneg _ (by decide)]; omega
  have hfm : ((n : Int).fmod 2) = ((n % 2 : Nat) : Int) := by rw [Int.fmod_eq_emod_of_nonneg _ (by decide)]; omega
  have hng : negs xs ≤ 7 := by
    have := List.length_filter_le (fun x : Int => decide (x < 0)) xs
    exact Nat.le_trans this hnx
  clear hyb hyl hys off
  iterate 16 walk1
  · rename_i hev
    have hmid' := fun ms hp ho => (hmid ms hp ho).trans (congrArg (List.map fun p => mn * p) (if_pos hev))
    clear hmid
    repeat walk1
    rename_i l8 _ _ _ D9 v9 n9 c9 h9 F9 N9 i9 e9 p9 o9 b9 p09 l9f
    refine LCg.ListComp_U (F₀ := by assumption) (by with_unfolding_all rfl) (by decide) (by rfl) (by decide) (by rfl) ?_
    k_steps
    refine LCg.CompSrc.ledger hh F9 N9 (.tail _ (.head _)) (by rw [sizeLine_eq]; show (_ : Nat) ≤ _; simp) (fun g => ?_)
    refine rest_mapM (ns := [(n : Int).fdiv 2 - negs xs]) (fun p => mn * p) (.cons _ _ .nil) (.inr ⟨_, .tail _ (.head _), rfl, _, rfl⟩) ?_ ?_ _ 0 [] rfl (Nat.zero_le _) .nil
    · intro n' t' I' oI C oC D oD m₂ h tk E' Q' hn' hC hm F N q
      have hb : -64 ≤ n' ∧ n' ≤ 64 := by
        simp only [List.mem_cons, List.not_mem_nil, or_false] at hn'
        unfold Bnd at hnb
        omega
      k_steps
      exact q _ _
    · intro ys2 hys2 D3 h3 tk3 F3 N3 off3
      refine ne_intsK (vs := v9) (us := ys2) ⟨_, (N3 _ (.tail _ (.head _))).1, rfl, _, rfl⟩ i9 ⟨_, (N3 _ (.head _)).1, rfl, _, rfl⟩ hys2 ?_ ?_
      · show A.units + _ + 64 < cLine
        omega
      rw [decide_eq_true (hmid' n9 p9 o9)]
      simp only [Bool.not_true]
      have N4 : News h₀ L h3 [(tr, listOf ut.toArray e4), (ln, listOf lv.toArray e3), (sm, listOf ss.toArray e2), (nb, listOf us.toArray e1), (L + 6, c6), (L + 5, c5), (L + 4, c4), (L + 3, c3), (L + 2, c2), (L + 1, c1)] := fun q hq => N3 q (.tail _ (.tail _ (.tail _ (.tail _ hq))))
      clear F9 N9 off3 N3
      k_steps
      exact k h3 _ _ F3 N4
  · rename_i hev
    have hmid' := fun ms hp ho => (hmid ms hp ho).trans (congrArg (List.map fun p => mn * p) (if_neg hev))
    clear hmid
    repeat walk1
    rename_i l8 _ _ _ D9 v9 n9 c9 h9 F9 N9 i9 e9 p9 o9 b9 p09 l9f
    refine LCg.ListComp_U (F₀ := by assumption) (by with_unfolding_all rfl) (by decide) (by rfl) (by decide) (by rfl) ?_
    k_steps
    refine LCg.CompSrc.ledger hh F9 N9 (.tail _ (.head _)) (by rw [sizeLine_eq]; show (_ : Nat) ≤ _; simp) (fun g => ?_)
    refine rest_mapM (ns := [(n : Int).fdiv 2 - negs xs, (n : Int).fdiv 2 + 1 - negs xs]) (fun p => mn * p) (.cons _ _ (.cons _ _ .nil)) (.inr ⟨_, .tail _ (.head _), rfl, _, rfl⟩) ?_ ?_ _ 0 [] rfl (Nat.zero_le _) .nil
    · intro n' t' I' oI C oC D oD m₂ h tk E' Q' hn' hC hm F N q
      have hb : -64 ≤ n' ∧ n' ≤ 64 := by
        simp only [List.mem_cons, List.not_mem_nil, or_false] at hn'
        unfold Bnd at hnb
        omega
      k_steps
      exact q _ _
    · intro ys2 hys2 D3 h3 tk3 F3 N3 off3
      refine ne_intsK (vs := v9) (us := ys2) ⟨_, (N3 _ (.tail _ (.head _))).1, rfl, _, rfl⟩ i9 ⟨_, (N3 _ (.head _)).1, rfl, _, rfl⟩ hys2 ?_ ?_
      · show A.units + _ + 64 < cLine
        omega
      rw [decide_eq_true (hmid' n9 p9 o9)]
      simp only [Bool.not_true]
      have N4 : News h₀ L h3 [(tr, listOf ut.toArray e4), (ln, listOf lv.toArray e3), (sm, listOf ss.toArray e2), (nb, listOf us.toArray e1), (L + 6, c6), (L + 5, c5), (L + 4, c4), (L + 3, c3), (L + 2, c2), (L + 1, c1)] := fun q hq => N3 q (.tail _ (.tail _ (.tail _ (.tail _ hq))))
      clear F9 N9 off3 N3
      k_steps
      exact k h3 _ _ F3 N4
set_option maxHeartbeats 4000000 in
theorem law11f {w : World} {A : Around} {h₀ : Heap} {L fa : Addr} {cd : Value} {s : Shared} {Q : Flow → Shared → Prop} {l r nb du tr : Addr}
    {t1 t2 t3 : Tok} {n : Nat} {kd sz : Int} {pi : Option Value}
    (F : Fr h₀ L s.heap (lawM9 L fa cd l r nb n kd sz t1 t2 t3 pi du tr false)) (X : (Mine.hd.heap_39 w.params).In h₀)
    (k : ∀ tk, wpAny (model PP w) (A.deeper (lawEnv L fa cd)) (execs (lawFrom 19) (lawEnv L fa cd)) Q (fun _ _ => False) { s with toks := tk }) :
    wpAny (model PP w) (A.deeper (lawEnv L fa cd)) (execs (lawFrom 18) (lawEnv L fa cd)) Q (fun _ _ => False) s := by
  w_top off
  have : PySem.Challenge.rw_dm5011_01 = PySem.Challenge.rw_dm5011_01 ∧ Mine.hd.heap_39 = Mine.hd.heap_39 := by k_fill; exact ⟨rfl, rfl⟩
  clear this
  have hB1 : lawSt 18 = lawSt 18 := rfl
  conv at hB1 => rhs; whnf
  have hS : lawScope = lawScope := rfl
  conv at hS => rhs; whnf
  rw [law_drop 18 (by decide), hB1]
  generalize lawFrom 19 = rest at k ⊢
  unfold lawM9 lawM8 lawM7 lawM5 lawM0 lawEnv at *
  simp only [hS] at F ⊢
  clear hB1
  k_steps
  exact k _
end Mine
end

/- text L12a -/
section
open PySem PySem.W PyProof.Rows PySem.Calls PyProof.V PySem.Spec PyProof.Rows.LCg
set_option maxRecDepth 100000
namespace Mine
theorem Fr.tn {g h h' : Heap} {L : Addr} {m : Str → Option Value} (F : Fr g L h m) (T : Tn [L] h h') : Fr g L h' m := by
  refine ⟨T.up.ns F.ns, fun b o e => T.other b o (F.keep b o e) fun z => ?_, F.above⟩
  rw [List.mem_singleton.mp z, kts_self F] at e
  cases e
theorem News.tn {g h h' : Heap} {L : Addr} {news : List (Addr × Obj)} (N : News g L h news) (T : Tn [L] h h') : News g L h' news := fun q hq =>
  ⟨T.other _ _ (N q hq).1 fun z => (N q hq).2.1 (List.mem_singleton.mp z), (N q hq).2⟩
def TupSrc (prog : Program) (w : World) (A : Around) (h₀ : Heap) (L : Addr) (m : Str → Option Value) (env : Env) (elt : Expr) (x : Str) (scope : Scope) (cl : List (Str × Addr)) (Q : Value → Shared → Prop) (xv : Value) (s₁ : Shared) : Prop :=
  ∃ t its news o, xv = .ref t ∧ A.handled = none ∧ Fr h₀ L s₁.heap m ∧ News h₀ L s₁.heap news ∧ (t, o) ∈ news ∧ o.cls = .type "tuple" ∧ (∃ n, o.data = .seq its n) ∧ its.size ≤ sizeLine ∧
      ∀ g, CompRest prog w A h₀ L m env elt x scope cl { s₁ with heap := g } (fun nw => (t, o) ∈ nw) (fun i v => its[i]? = some v) (FinE h₀ L m { s₁ with heap := g } Q) its.size 0 [] news
section
variable {prog : Program} {w : World} {A : Around} {E : Value → Shared → Prop} {s : Shared} {h₀ : Heap} {L : Addr} {m : Str → Option Value} {env : Env}
/-- [.. for x in t], t a tuple of the ledger -/
theorem eval_comp_tup {elt iter : Expr} {x : Str} {px : Pos} {scope : Scope} {cl : List (Str × Addr)} {pos : Pos} {Q : Value → Shared → Prop}
    (hclos : closureFor scope env = pure cl) (hcell : ∀ y ∈ scope.names, y.2 ≠ .cell) (hkind : scope.kind = .function)
    (hnames : ∀ y ∈ scope.names, y.2 = .local → scope.names.lookup y.1 = some .local) (hx : scope.names.lookup x = some .local)
    (h : wpAny (model prog w) A (eval iter env) (TupSrc prog w A h₀ L m env elt x scope cl Q) E s)
    (hs : ∀ x, foldedSetIterable iter env x = pure x := by intro _; rfl) :
    wpAny (model prog w) A (eval (.ListComp elt [⟨.Name x px, iter, [], 0⟩] scope pos) env) Q E s := by
  rw [eval_ListComp]
  refine wpAny_comprehension_free (use := none) rfl hs hclos hkind hnames (wpAny_mono h (fun xv s₁ h₁ => ?_) fun _ _ e => e)
  obtain ⟨t, its, news, o, rfl, hh, F, N, hto, hoc, ⟨nn, hod⟩, hsz, R⟩ := h₁
  have hth := (N _ hto).1
  have hl : s₁.heap.IsTuple t its := ⟨o, hth, hoc, nn, hod⟩
  have hlt : t < s₁.heap.objs.size := Heap.lt_size hth
  refine wpAny_pyIter_tuple hl ?_
  refine block_U (Walks.tuple hh s₁.heap.objs.size t (Nat.ne_of_lt hlt) its) hsz (fun i h st => by obtain ⟨o', e, _⟩ := st.1; exact ⟨o', e⟩) (fun i h h' o' nw st e e' _ Nw hS => ⟨st.1.at fun o2 q => by rw [e] at q; rw [← Option.some.inj q]; exact e', ⟨o, (Nw _ hS).1, hoc, nn, hod⟩⟩) hcell hkind hx
    ⟨⟨_, Heap.get?_push_size _ rfl, rfl, rfl⟩, ⟨o, Heap.get?_push_of_some _ hth, hoc, nn, hod⟩⟩ (fun b hb => ?_) (F.push _) (N.grown fun b o e => Heap.get?_push_of_some _ e) (Nat.ne_of_lt F.ns.lt) (next_is_new F) (fun p hp => Nat.ne_of_lt (Heap.lt_size (N p hp).1)) hto (R _) ?_
  · show b < (s₁.heap.push _).objs.size
    rw [Heap.size_push]
    rcases List.mem_cons.mp hb with rfl | hb
    · exact Nat.lt_succ_self _
    · rw [List.mem_singleton.mp hb]; exact Nat.lt_succ_of_lt hlt
  · intro D C h tk m' ys news' F' N' o1 hn hC₀ hD₀ hCL hDL hCD offC fin
    refine ⟨m', hn, fun h'' hs'' => fin D h'' tk (F'.change hs'' hCL hC₀) (fun p hp => ?_) o1⟩
    refine ⟨hs''.extBut _ _ ?_ (N' p hp).1, (N' p hp).2⟩
    rcases List.mem_cons.mp hp with rfl | hp
    · exact Ne.symm hCD
    · exact offC p hp
/-- each turn gives True -/
theorem rest_true {elt : PySem.Expr} {x : Str} {scope : Scope} {cl : List (Str × Addr)} {s : Shared} {its : Array Value} {S : List (Addr × Obj) → Prop} {Fin : List Value → List (Addr × Obj) → Prop} {news : List (Addr × Obj)} {ks : List Int} (hi : IntsAre its.toList ks) (hS : S news)
    (turn : ∀ k t I oI C oC D oD m₂ h tk (E' : Value → Shared → Prop) (Q' : Value → Shared → Prop), k ∈ ks → LCg.NsObj oC m₂ → m₂ x = some (.int k t) → Fr h₀ L h m → News h₀ L h ((I, oI) :: (C, oC) :: (D, oD) :: news) →
      (∀ h' tk', Fr h₀ L h' m → News h₀ L h' ((I, oI) :: (C, oC) :: (D, oD) :: news) → Q' (.bool true) { s with heap := h', toks := tk' }) →
      wpAny (model prog w) A (eval elt (compEnvC scope cl C env)) Q' E' { s with heap := h, toks := tk })
    (fin : ∀ ys, LSm.BoolsAre ys (List.replicate ks.length true) → Fin ys news) :
    ∀ k i ys, its.size - i = k → i ≤ its.size → LSm.BoolsAre ys (List.replicate i true) → LCg.CompRest prog w A h₀ L m env elt x scope cl s S (fun i v => its[i]? = some v) Fin k i ys news := by
  have hlen : its.size = ks.length := by have := hi.length; simpa using this
  intro k
  induction k with
  | zero =>
    intro i ys hk hle hys
    refine LCg.CompRest.zero (fin ys ?_)
    rwa [show i = ks.length from by omega] at hys
  | succ k ih =>
    intro i ys hk hle hys
    refine LCg.CompRest.succ fun v I oI C oC D m₂ h tk E' hv hC hm F N off ne => ?_
    have hlt : i < ks.length := by omega
    obtain ⟨t, rfl⟩ : ∃ t, v = .int ks[i] t := by
      have hl : i < its.toList.length := by simp; omega
      obtain ⟨t, e⟩ := ints_get hi hl
      have : its[i]? = some its.toList[i] := by rw [← Array.getElem?_toList]; exact List.getElem?_eq_getElem hl
      rw [this] at hv
      exact ⟨t, by rw [← Option.some.inj hv, e, List.getElem!_eq_getElem?_getD, List.getElem?_eq_getElem hlt]; rfl⟩
    refine turn ks[i] t I oI C oC D _ m₂ h tk E' _ (List.getElem_mem hlt) hC hm F N fun h' tk' F' N' => ?_
    refine ⟨h', tk', news, rfl, F', N', off, hS, ih (i + 1) _ (by omega) (by omega) ?_⟩
    rw [List.replicate_succ']
    exact bools_snoc hys
where bools_snoc : ∀ {ys : List Value} {bs : List Bool}, LSm.BoolsAre ys bs → LSm.BoolsAre (ys ++ [.bool true]) (bs ++ [true])
  | _, _, .nil => .cons _ .nil
  | _, _, .cons b r => .cons b (bools_snoc r)
end
end Mine
end

/- text L12 -/
section
open PySem PySem.W PyProof.Rows PySem.Calls PyProof.V PySem.Spec
set_option maxRecDepth 100000
namespace Mine
set_option maxHeartbeats 4000000 in
theorem law12 {w : World} {mean : ExcName → Option Value} {mg mb : Str → Option Value} {A : Around} {base h₀ : Heap} {L fa : Addr} {cd : Value} {s : Shared} {Q : Flow → Shared → Prop} {nb sm ln tr : Addr} {us ss lv ut : List Value} {e1 e2 e3 e4 : Nat} {c1 c2 c3 c4 c5 c6 : Obj}
    {tn : Tok} {n : Nat} {mn : Int} {m : Str → Option Value} {S : List Int}
    (B : Below A base [] h₀) (F : Fr h₀ L s.heap m) (X : (Mine.hd.heap_39 w.params).In h₀) (T : Top PV PL mean mg mb h₀) (XB : (Mine.hd.heap_39 w.params).In base) (TB : Top PV PL mean mg mb base)
    (hh : A.handled = none) (hd : A.depth + 200 < recursionLimit) (hun : A.units + 300 < cLine)
    (N : News h₀ L s.heap [(tr, listOf ut.toArray e4), (ln, listOf lv.toArray e3), (sm, listOf ss.toArray e2), (nb, listOf us.toArray e1), (L + 6, c6), (L + 5, c5), (L + 4, c4), (L + 3, c3), (L + 2, c2), (L + 1, c1)])
    (hc6 : c6.data = .cell (some (.int mn tn))) (hc3 : c3.data = .cell (some (.ref ln))) (hc1 : c1.data = .cell (some (.ref sm))) (hlv : IntsAre lv (rowI n)) (hss : IntsAre ss S) (hsl : ss.length ≤ 1024) (hs1 : 1 ≤ ss.length) (hn1 : 1 ≤ n) (hnb : Bnd n) (hmn : 0 < mn)
    (hcell : ∀ k : Nat, (k = 1 ∨ k = 2 ∨ k = 3) → ∀ c, ((S.map fun x => x.fdiv (k * mn)).count c : Int) ≤ (cap n k : Int))
    (k : ∀ h tk, Fr h₀ L h m → Q (.ret (.bool true)) { s with heap := h, toks := tk }) :
    wpAny (model PP w) (A.deeper (lawEnv L fa cd)) (execs (lawFrom 19) (lawEnv L fa cd)) Q (fun _ _ => False) s := by
  w_top off
  have : PySem.Challenge.rw_dm5011_01 = PySem.Challenge.rw_dm5011_01 ∧ Mine.hd.heap_39 = Mine.hd.heap_39 := by k_fill; exact ⟨rfl, rfl⟩
  clear this
  have hB1 : lawSt 19 = lawSt 19 := rfl
  conv at hB1 => rhs; whnf
  have hS : lawScope = lawScope := rfl
  conv at hS => rhs; whnf
  have hB2 : lawFrom 20 = [] := by unfold lawFrom; rw [List.drop_eq_nil_of_le]; exact Nat.le_of_eq law_len
  rw [law_drop 19 (by decide), hB1, hB2]
  unfold lawEnv at *
  simp only [hS] at F ⊢
  clear hB1 hB2
  repeat walk1
  refine eval_comp_tup (h₀ := h₀) (L := L) (m := m) (by with_unfolding_all rfl) (by decide) (by rfl) (by decide) (by rfl) ?_
  k_steps
  rename_i D1 h1 F1 N1 l1
  refine ⟨_, _, _, _, rfl, hh, F1, N1, .head _, rfl, ⟨_, rfl⟩, by rw [sizeLine_eq]; show (_ : Nat) ≤ _; simp, fun g => ?_⟩
  refine rest_true (ks := [1, 2, 3]) (.cons _ _ (.cons _ _ (.cons _ _ .nil))) (.head _) ?_ ?_ _ 0 [] rfl (Nat.zero_le _) .nil
  · intro kk t I oI C oC D oD m₂ h tk E' Q' hk hC hm F N q
    have hkb : 1 ≤ kk ∧ kk ≤ 3 := by
      simp only [List.mem_cons, List.not_mem_nil, or_false] at hk
      omega
    have hlen : lv.length = (rowI n).length := hlv.length
    have hlen2 : (rowI n).length = n + 1 := rowI_len n
    have hlb : lv.length ≤ 8 := by unfold Bnd at hnb; omega
    clear hk
    iterate 23 walk1
    rename_i cE
    refine kso_sorted F N ⟨_, (N _ (.tail _ (.tail _ (.tail _ (.tail _ (.tail _ (.head _))))))).1, rfl, _, rfl⟩ hlv (by omega) ?_
    intro D5 v5 n5 e5 h5 F5 N5 l5 i5 q5 p5 o5 b5
    iterate 8 walk1
    have hl5 : h5.IsList D5 v5.toArray := ⟨_, (N5 _ (.head _)).1, rfl, _, rfl⟩
    have i6 := kmk_from_neg i5 (x := -kk) (by omega)
    refine kmk_slice (s := ⟨h5, _, _, _, _⟩) F5 N5 hl5 (.int _ _) .none ?_ ?s ?t ?z
    case s => with_unfolding_all rfl
    case t => intro _; with_unfolding_all rfl
    case z => rw [List.size_toArray, sizeLine_eq, i5.length, q5]; omega
    intro D6 h6 F6 N6 l6
    generalize slicePick v5.toArray (some (-kk)) none none = a6 at i6 N6
    obtain ⟨v6, rfl⟩ : ∃ v6 : List Value, a6 = v6.toArray := ⟨a6.toList, Array.toArray_toList.symm⟩
    have i6' : IntsAre v6 (n5.drop (n5.length - (- -kk).toNat)) := i6
    clear F5 N5 l5 l6 i6 hl5
    iterate 1 walk1
    refine LSm.sum_ints F6 N6 hh ⟨_, (N6 _ (.head _)).1, rfl, _, rfl⟩ i6' fun h7 tk7 t7 F7 N7 => ?_
    clear F6 N6
    iterate 2 (try walk1)
    have hps := rowS_perm n hn1 hnb
    have hn5 : n5 = rowS n := sorted_unique (p5.trans hps.1) o5 hps.2.1
    have hk3 : kk.toNat = 1 ∨ kk.toNat = 2 ∨ kk.toNat = 3 := by omega
    have hkn : ((kk.toNat : Nat) : Int) = kk := by omega
    have hsum : (n5.drop (n5.length - (- -kk).toNat)).sum = (cap n kk.toNat : Int) := by
      rw [Int.neg_neg, hn5]; exact row_cap n _ hn1 hnb hk3
    rw [hsum]
    refine cells_call (ns := S) B F7 X T XB TB (deeper_frames B.stack) rfl rfl hh (show A.depth + 1 + 110 < recursionLimit from by omega) ⟨_, (N7 _ (.tail _ (.tail _ (.tail _ (.tail _ (.tail _ (.tail _ (.tail _ (.tail _ (.head _)))))))))).1, rfl, _, rfl⟩ hss hsl hs1 (Int.mul_pos (by omega) hmn) (fun c => ?_) ?_
    · have := hcell kk.toNat hk3 c
      rw [hkn] at this
      exact this
    intro h8 tk8 T8
    exact q h8 tk8 (Fr.tn F7 T8) (News.tn (fun x hx => N7 x (.tail _ (.tail _ hx))) T8)
  · intro ys hys D h tk F N off
    k_steps
    refine LSm.all_bools F N hh ⟨_, (N _ (.head _)).1, rfl, _, rfl⟩ hys fun h' tk' F' N' => ?_
    exact k h' _ F'
end Mine
end

/- text L13 -/
section
open PySem PySem.W PyProof.Rows PySem.Calls PyProof.V PySem.Spec
set_option maxRecDepth 100000
namespace Mine
theorem num_ne {kd sz : Int} {rs : List Int} {i : Nat} (h : 1 ≤ sz) : numOf kd sz rs i ≠ 0 := by
  unfold numOf
  (repeat' split) <;> omega
theorem sumsF_rev : ∀ ys : List Int, sumsF ys.reverse = T ys
  | [] => rfl
  | y :: ys => by
    have ih := sumsF_rev ys
    unfold sumsF at ih ⊢
    rw [List.reverse_cons, List.foldl_append, ih]
    rfl
theorem sumsF_T (xs : List Int) : (sumsF xs).Perm (T xs) := by
  have := sumsF_rev xs.reverse
  rw [List.reverse_reverse] at this
  rw [this]
  exact T_perm (List.reverse_perm xs)
theorem tally_idx {S : List Int} {v : Int} (h : v ∈ S) : ∃ j, j < (tally S).length ∧ (tally S)[j]! = (v, (S.count v : Int)) := by
  have hm := ((tally_cnt S).mem v _).mpr ⟨h, rfl⟩
  obtain ⟨j, hj, e⟩ := List.getElem_of_mem hm
  exact ⟨j, hj, by rw [getElem!_pos _ j hj]; exact e⟩
theorem max_count {S : List Int} {mx : Int} (h1 : ∃ i, i < (tally S).length ∧ ((tally S)[i]!).2 = mx) (h2 : ∀ j, j < (tally S).length → ((tally S)[j]!).2 ≤ mx) :
    (∃ v, (S.count v : Int) = mx) ∧ ∀ v, (S.count v : Int) ≤ mx := by
  obtain ⟨i, hi, e⟩ := h1
  have hp : (tally S)[i]? = some (tally S)[i]! := by rw [getElem!_pos _ i hi]; exact List.getElem?_eq_getElem hi
  have hc := tally_at hp
  refine ⟨⟨((tally S)[i]!).1, by rw [← hc, e]⟩, fun v => ?_⟩
  by_cases hv : v ∈ S
  · obtain ⟨j, hj, q⟩ := tally_idx hv
    have := h2 j hj
    rw [q] at this
    exact this
  · rw [List.count_eq_zero_of_not_mem hv, ← e, hc]
    exact Int.natCast_nonneg _
theorem modes_nodup (S : List Int) (mx : Int) : (modes S mx).Nodup := (tally_cnt S).nodup.filter _
theorem modes_mem {S : List Int} {mx : Int} (h : 0 < mx) {k : Int} : k ∈ modes S mx ↔ (S.count k : Int) = mx := by
  unfold modes
  rw [List.mem_filter, decide_eq_true_eq]
  refine ⟨fun q => q.2, fun q => ⟨?_, q⟩⟩
  have hk : k ∈ S := by
    refine List.count_pos_iff.mp ?_
    omega
  obtain ⟨j, hj, e⟩ := tally_idx hk
  refine List.mem_map.mpr ⟨(k, (S.count k : Int)), ?_, rfl⟩
  rw [← e, getElem!_pos _ j hj]
  exact List.getElem_mem hj
section
variable {S xs : List Int} {n : Nat} {mx mn mxx : Int}
theorem absI_natAbs (x : Int) : absI x = (x.natAbs : Int) := by unfold absI; split <;> omega
theorem least_pos (h0 : ∀ x ∈ xs, x ≠ 0) (h : mn ∈ xs.map absI) : 0 < mn := by
  obtain ⟨x, hx, rfl⟩ := List.mem_map.mp h
  have := h0 x hx
  rw [absI_natAbs]; omega
theorem least_le (h : ∀ x ∈ xs.map absI, mn ≤ x) : ∀ x ∈ xs, mn ≤ x ∨ x ≤ -mn := fun x hx => by
  have := h _ (List.mem_map_of_mem hx)
  rw [absI_natAbs] at this; omega
theorem alike_all (h : ∀ x ∈ xs.map absI, mn ≤ x) (h' : ∀ x ∈ xs.map absI, x ≤ mn) : ∀ x ∈ xs, x = mn ∨ x = -mn := fun x hx => by
  have a := h _ (List.mem_map_of_mem hx)
  have b := h' _ (List.mem_map_of_mem hx)
  rw [absI_natAbs] at a b; omega
theorem mx_le (hS : S.Perm (T xs)) (hn : xs.length = n) (h1 : 1 ≤ n) (h7 : n ≤ 7) (h0 : ∀ x ∈ xs, x ≠ 0) (h : ∃ v, (S.count v : Int) = mx) : mx ≤ (rowI n)[n / 2]! := by
  obtain ⟨v, rfl⟩ := h
  rw [row_mid n h1 h7]
  exact Int.ofNat_le.mpr (count_le_cap hS hn h0 v)
theorem mx_alike (hS : S.Perm (T xs)) (hn : xs.length = n) (h1 : 1 ≤ n) (h7 : n ≤ 7) (h0 : ∀ x ∈ xs, x ≠ 0) (he : ∃ v, (S.count v : Int) = mx) (hm : ∀ v, (S.count v : Int) ≤ mx)
    (a1 : mn ∈ xs.map absI) (a2 : ∀ x ∈ xs.map absI, mn ≤ x) (b1 : mxx ∈ xs.map absI) (b2 : ∀ x ∈ xs.map absI, x ≤ mxx) : decide (mx = (rowI n)[n / 2]!) = (mxx == mn) := by
  have hle := mx_le hS hn h1 h7 h0 he
  rw [row_mid n h1 h7] at hle ⊢
  by_cases q : mxx = mn
  · subst q
    rw [beq_self_eq_true, decide_eq_true_eq]
    have hpos := least_pos h0 a1
    have := (alike_mid hS hn h1 h7 hpos (alike_all a2 b2) _).mpr (.inl rfl)
    have h3 := hm (mxx * ((n / 2 : Nat) - negs xs))
    rw [this] at h3
    omega
  · rw [beq_eq_false_iff_ne.mpr q, decide_eq_false_iff_not]
    intro e
    obtain ⟨v, rfl⟩ := he
    obtain ⟨p, hp, hpe⟩ := List.mem_map.mp a1
    obtain ⟨r, hr, hre⟩ := List.mem_map.mp b1
    have h5 := a2 mxx b1
    have hlt : p.natAbs < r.natAbs := by
      rw [absI_natAbs] at hpe hre; omega
    have := count_lt_cap hS hn h1 h7 h0 hp hr hlt v
    omega
theorem mid_perm (hS : S.Perm (T xs)) (hn : xs.length = n) (h1 : 1 ≤ n) (h7 : n ≤ 7) (ha : 0 < mn) (hx : ∀ x ∈ xs, x = mn ∨ x = -mn) (hmx : mx = (cap n 1 : Int)) :
    (modes S mx).Perm ((if n % 2 = 0 then [((n / 2 : Nat) : Int) - negs xs] else [((n / 2 : Nat) : Int) - negs xs, ((n / 2 : Nat) : Int) + 1 - negs xs]).map fun p => mn * p) := by
  have hc := cap_pos n h1 h7
  refine (List.perm_ext_iff_of_nodup (modes_nodup S mx) ?_).mpr fun k => ?_
  · split
    · simp
    · simp only [List.map_cons, List.map_nil, List.nodup_cons, List.mem_singleton, List.not_mem_nil, not_false_eq_true, List.nodup_nil, and_true]
      intro e
      have := Int.eq_of_mul_eq_mul_left (Int.ne_of_gt ha) e
      omega
  · rw [modes_mem (by omega), hmx, Int.ofNat_inj, alike_mid hS hn h1 h7 ha hx k]
    split
    · simp only [List.map_cons, List.map_nil, List.mem_singleton]
      constructor
      · rintro (q | ⟨q, _⟩)
        · exact q
        · omega
      · exact .inl
    · simp only [List.map_cons, List.map_nil, List.mem_cons, List.not_mem_nil, or_false]
      constructor
      · rintro (q | ⟨_, q⟩)
        · exact .inl q
        · exact .inr q
      · rintro (q | q)
        · exact .inl q
        · exact .inr ⟨by omega, q⟩
theorem mid_sorted (ha : 0 < mn) : ((if n % 2 = 0 then [((n / 2 : Nat) : Int) - negs xs] else [((n / 2 : Nat) : Int) - negs xs, ((n / 2 : Nat) : Int) + 1 - negs xs]).map fun p => mn * p).Pairwise (· ≤ ·) := by
  split
  · simp
  · simp only [List.map_cons, List.map_nil, List.pairwise_cons, List.mem_singleton, List.not_mem_nil, false_implies, implies_true, List.Pairwise.nil, and_true, forall_eq]
    exact Int.mul_le_mul_of_nonneg_left (by omega) (Int.le_of_lt ha)
theorem mid_all (hS : S.Perm (T xs)) (hn : xs.length = n) (h1 : 1 ≤ n) (h7 : n ≤ 7) (ha : 0 < mn) (hx : ∀ x ∈ xs, x = mn ∨ x = -mn) (hmx : mx = (cap n 1 : Int)) :
    ∀ ms : List Int, ms.Perm (modes S mx) → ms.Pairwise (· ≤ ·) → ms = (if (n : Int).fmod 2 = 0 then [(n : Int).fdiv 2 - negs xs] else [(n : Int).fdiv 2 - negs xs, (n : Int).fdiv 2 + 1 - negs xs]).map (fun p => mn * p) := by
  intro ms hp ho
  have e1 : ((n : Int).fdiv 2) = ((n / 2 : Nat) : Int) := by rw [Int.fdiv_eq_ediv_of_nonneg _ (by decide)]; omega
  have e2 : ((n : Int).fmod 2) = ((n % 2 : Nat) : Int) := by rw [Int.fmod_eq_emod_of_nonneg _ (by decide)]; omega
  have e3 : (((n % 2 : Nat) : Int) = 0) = (n % 2 = 0) := by apply propext; omega
  rw [e1, e2]
  simp only [e3]
  exact sorted_unique (hp.trans (mid_perm hS hn h1 h7 ha hx hmx)) ho (mid_sorted ha)
theorem mid_len (hS : S.Perm (T xs)) (hn : xs.length = n) (h1 : 1 ≤ n) (h7 : n ≤ 7) (ha : 0 < mn) (hx : ∀ x ∈ xs, x = mn ∨ x = -mn) (hmx : mx = (cap n 1 : Int)) : (modes S mx).length ≤ 2 := by
  rw [(mid_perm hS hn h1 h7 ha hx hmx).length_eq, List.length_map]
  split <;> simp
end
end Mine
end

/- text L14 -/
section
open PySem PySem.W PyProof.Rows PySem.Calls PyProof.V PySem.Spec
set_option maxRecDepth 100000
namespace Mine
theorem news_ne {g h : Heap} {L a b : Addr} {news : List (Addr × Obj)} {o o' : Obj} (N : News g L h news) (h1 : (a, o) ∈ news) (h2 : (b, o') ∈ news) (hd : o.data ≠ o'.data) : @Ne Nat a b := fun z => by
  have e1 := (N _ h1).1
  have e2 := (N _ h2).1
  have z' : a = b := z
  subst z'
  rw [e1] at e2
  exact hd (congrArg Obj.data (Option.some.inj e2))
set_option maxHeartbeats 4000000 in
theorem law_body {w : World} {mean : ExcName → Option Value} {mg mb : Str → Option Value} {A : Around} {base h₀ : Heap} {L fa : Addr} {cd : Value} {s : Shared} {Q : Flow → Shared → Prop} {l : Addr} {vs : List Value} {ns : List Int} {c1 c2 c3 c4 c5 c6 : Obj} {v1 v2 v3 v4 v5 v6 : Option Value}
    (B : Below A base [] h₀) (F : Fr h₀ L s.heap (lawM0 L fa cd (.ref l))) (X : (Mine.hd.heap_39 w.params).In h₀) (T : Top PV PL mean mg mb h₀) (XB : (Mine.hd.heap_39 w.params).In base) (TB : Top PV PL mean mg mb base)
    (hh : A.handled = none) (hd : A.depth + 200 < recursionLimit) (hun : A.units + 300 < cLine)
    (N : News h₀ L s.heap [(L + 6, c6), (L + 5, c5), (L + 4, c4), (L + 3, c3), (L + 2, c2), (L + 1, c1)])
    (hc1 : c1.data = .cell v1) (hc2 : c2.data = .cell v2) (hc3 : c3.data = .cell v3) (hc4 : c4.data = .cell v4) (hc5 : c5.data = .cell v5) (hc6 : c6.data = .cell v6)
    (hl : h₀.IsList l vs.toArray) (hi : IntsAre vs ns) (hn : vs.length ≤ 63)
    (ret : ∀ h tk m', h.Ns L m' → base.StaysIn h → Q (.ret (.bool true)) { s with heap := h, toks := tk }) :
    wpAny (model PP w) (A.deeper (lawEnv L fa cd)) (execs (lawFrom 0) (lawEnv L fa cd)) Q (fun _ _ => False) s := by
  refine law1 B F X T hh hd N hl hi hn ?_
  intro h1 k1 r e1 rv F1 N1 hrv
  have hrl : rv.length = vs.length + 9 := by rw [hrv.length, List.length_append, hi.length]; rfl
  refine law2 B F1 X T hh hd N1 hl hi hn hrv hrl ?_
  intro h2 k2 nb t1 t2 t3 kd sz hlt b1 b2 b3 b4 F2 N2
  obtain ⟨n, hne⟩ : ∃ n : Nat, n = 1 + ns.length % 7 := ⟨_, rfl⟩
  have hnn : (1 + (ns.length : Int).fmod 7) = (n : Int) := by rw [Int.fmod_eq_emod_of_nonneg _ (by decide)]; omega
  have hn1 : 1 ≤ n := by omega
  have hn7 : n ≤ 7 := by omega
  have hnb : Bnd n := hn7
  clear hne
  rw [hnn] at F2
  refine law3 B F2 X T hh hd N2 hlt hrv (by omega) hnb b1 b2 b3 b4 ?_
  intro h3 k3 pi us e3 F3 N3 hus
  generalize hxs : (List.range n).map (numOf kd sz (ns ++ lawTail)) = xs at hus
  have hxn : xs.length = n := by rw [← hxs, List.length_map, List.length_range]
  have hx0 : ∀ x ∈ xs, x ≠ 0 := fun x hx => by
    rw [← hxs] at hx
    obtain ⟨i, _, rfl⟩ := List.mem_map.mp hx
    exact num_ne b3
  have hul : us.length = n := by rw [hus.length, hxn]
  refine law4 B F3 X T hh hd N3 hlt.2 hus (by omega) hc1 hc2 ?_
  intro h4 k4 sm ss e4 o1 o2 v2' g1 F4 N4 ho1 ho2 hss hsl
  refine law5 B F4 X T hh hd N4 ⟨g1, hlt.2.1⟩ hnb hc3 ?_
  intro h5 k5 pi' ln lv e5 o3 g2 F5 N5 ho3 hlv
  have hS := sumsF_T xs
  generalize sumsF xs = S at hss hS
  have hSl : ss.length = S.length := hss.length
  have hs2 : ss.length ≤ 1024 := by rw [hsl, hxn]; exact Nat.le_trans (Nat.pow_le_pow_right (by decide) hn7) (by decide)
  have hs1 : 1 ≤ ss.length := by rw [hsl]; exact Nat.one_le_two_pow
  refine law6 B F5 X T hh hd N5 ⟨g1, hlt.2.1, g2.2⟩ ho1 hc4 hc5 hss hs2 hs1 ?_
  intro h6 k6 d1 od kvs o4 o5 mx tm g3 hd1 F6 N6 ho4 ho5 hdi hfl hx1 hx2
  refine law7 B F6 X T hh hd N6 hd1 ho4 ho5 hdi hfl (hSl ▸ hs2) ?_
  intro h7 k7 du yd F7 N7 hyd
  refine law8 B F7 X T XB TB hh hd hun N7 ho1 hss hs2 hs1 hyd hx1 hx2 ?_
  intro g8 h8 k8 tr ut e8 B8 F8 N8 X8 T8 hut
  have hdat : ∀ (a : Array Value) (b : Nat) (c : Option Value), Data.seq a b ≠ Data.cell c := fun a b c z => by cases z
  have ne6 : @Ne Nat tr (L + 6) := news_ne N8 (.head _) (.tail _ (.tail _ (.tail _ (.tail _ (.head _))))) (by rw [hc6]; exact hdat _ _ _)
  have ne5 : @Ne Nat tr (L + 5) := news_ne N8 (.head _) (.tail _ (.tail _ (.tail _ (.tail _ (.tail _ (.head _)))))) (by rw [ho5]; exact hdat _ _ _)
  have ne4 : @Ne Nat tr (L + 4) := news_ne N8 (.head _) (.tail _ (.tail _ (.tail _ (.tail _ (.tail _ (.tail _ (.head _))))))) (by rw [ho4]; exact hdat _ _ _)
  have ne3 : @Ne Nat tr (L + 3) := news_ne N8 (.head _) (.tail _ (.tail _ (.tail _ (.tail _ (.tail _ (.tail _ (.tail _ (.head _)))))))) (by rw [ho3]; exact hdat _ _ _)
  have ne2 : @Ne Nat tr (L + 2) := news_ne N8 (.head _) (.tail _ (.tail _ (.tail _ (.tail _ (.tail _ (.tail _ (.tail _ (.tail _ (.head _))))))))) (by rw [ho2]; exact hdat _ _ _)
  have ne1 : @Ne Nat tr (L + 1) := news_ne N8 (.head _) (.tail _ (.tail _ (.tail _ (.tail _ (.tail _ (.tail _ (.tail _ (.tail _ (.tail _ (.head _)))))))))) (by rw [ho1]; exact hdat _ _ _)
  refine law9 B8 F8 X8 T8 hh hd hun N8 ⟨hlt.2.1, g1, g2.2, ne6, ne5, ne4, ne3, ne2, ne1⟩ hc6 hus (by omega) (by omega) ?_
  intro h9 k9 mn tn mxx o6 F9 N9 ho6 a1 a2 b1' b2'
  obtain ⟨he, hm⟩ := max_count hx1 hx2
  have hmn := least_pos hx0 a1
  have hcell : ∀ k : Nat, (k = 1 ∨ k = 2 ∨ k = 3) → ∀ c, ((S.map fun x => x.fdiv (k * mn)).count c : Int) ≤ (cap n k : Int) := fun k hk c =>
    Int.ofNat_le.mpr (cell_le hS hxn hmn (least_le a2) (by omega) c)
  have hiff := mx_alike hS hxn hn1 hn7 hx0 he hm a1 a2 b1' b2'
  refine law10 B8 F9 X8 T8 hh hd hun N9 ho5 ho3 hlv hn1 hnb (mx_le hS hxn hn1 hn7 hx0 he) hiff ?_
  intro k10
  have stays : ∀ {h : Heap} {m : Str → Option Value}, Fr g8 L h m → base.StaysIn h := fun F b o e => F.keep b o (B8.stays b o e)
  have last : ∀ (h : Heap) (tk : Nat) (m' : Str → Option Value), Fr g8 L h m' → News g8 L h [(tr, listOf ut.toArray e8), (ln, listOf lv.toArray e5), (sm, listOf ss.toArray e4), (nb, listOf us.toArray e3), (L + 6, o6), (L + 5, o5), (L + 4, o4), (L + 3, o3), (L + 2, o2), (L + 1, o1)] →
      wpAny (model PP w) (A.deeper (lawEnv L fa cd)) (execs (lawFrom 19) (lawEnv L fa cd)) Q (fun _ _ => False) { s with heap := h, toks := tk } := fun h tk m' F N =>
    law12 B8 F X8 T8 XB TB hh hd hun N ho6 ho3 ho1 hlv hss hs2 hs1 hn1 hnb hmn hcell fun h' tk' F' => ret h' tk' _ F'.ns (stays F')
  by_cases q : mxx = mn
  · subst q
    rw [beq_self_eq_true] at F9 hiff
    rw [decide_eq_true_eq, row_mid n hn1 hn7] at hiff
    have hall := alike_all a2 b2'
    refine law11 B8 F9 X8 T8 hh hd hun N9 ho6 hus (by omega) hut ?_ hn1 hnb (by omega) (mid_all hS hxn hn1 hn7 hmn hall hiff) ?_
    · rw [hut.length]; exact mid_len hS hxn hn1 hn7 hmn hall hiff
    · intro h11 k11 m' F11 N11
      exact last h11 k11 m' F11 N11
  · rw [beq_eq_false_iff_ne.mpr q] at F9
    refine law11f F9 X8 ?_
    intro k11
    exact last _ _ _ F9 N9
end Mine
end

/- the head and the law -/
open PySem PySem.W PyProof.Rows PySem.Calls PyProof.V PySem.Spec
set_option maxRecDepth 100000 in
set_option maxHeartbeats 8000000 in
theorem PySem.Challenge.cw_dm5011_01_holds : PySem.Challenge.rw_dm5011_01.Holds := by
  refine Mine.hd ?_
  w_strict (k_go0; (all_goals try k_fold); (refine' wpAny_mono (Mine.law_body (A := callerA) ?B ?F ?X ?T ?XB ?TB ?hh ?hd ?hun ?N ?d1 ?d2 ?d3 ?d4 ?d5 ?d6 ?hl ?hi ?hn ?ret) (fun _ _ h => h) (fun _ _ h => h.elim)); (case F => assumption); (case X => assumption); (case T => assumption); (case N => assumption); (case B => assumption); (case XB => assumption); (case TB => assumption); (case hh => rfl); (case hd => decide); (case hun => decide); (case hl => assumption); (case hi => assumption); (case d1 => assumption); (case d2 => assumption); (case d3 => assumption); (case d4 => assumption); (case d5 => assumption); (case d6 => assumption); (case hn => rw [IntsAre.length (by assumption)]; omega); (case ret => intro h tk m' hns hst; have F2 : Fr _ _ h m' := ⟨hns, hst, Fr.above (by assumption)⟩; dsimp only; k_steps))
