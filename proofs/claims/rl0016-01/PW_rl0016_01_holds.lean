import PyProof.Rows.All
import Wide.All
import OpenK.AllK
import Wide.FinOn
import KE.KSortTup
import KE.IntBitsLaws
import KE.BitLaws
import PySem.Challenge.RW_rl0016_01
open PySem PySem.W PyProof.Rows PySem.Calls
set_option Elab.async false
set_option maxRecDepth 100000
set_option maxHeartbeats 8000000
-- part LawTop
namespace Mine
theorem startLawTop : True := by
  w_top off
  trivial
open_top hd for PySem.Challenge.rw_rl0016_01
end Mine

-- part G1
namespace Mine
theorem startG1 : True := by
  w_top off
  trivial

section
variable {M : Model} {A : Around} {R : GenEnd} {Y : Protocol} {n : Nat} {s₀ : Shared} {c : Code} {fs : List Frame} {s : Shared} {env : Env}
  {K : Flow → Sem Fin} {H : Value → Sem Fin} {gd : Bool → Bool} {lv : List Value → List Value}

theorem segIf {test : PySem.Expr} {body orelse : List Stmt} {pos : Pos}
    (h : wpAny M (A.over c fs) (isTrue test env (eval test env)) (fun b s' =>
      if b = true then Seg M A R Y n s₀ c ((execs body env).wrap K H gd lv) fs s'
      else Seg M A R Y n s₀ c ((execs orelse env).wrap K H gd lv) fs s') (fun _ _ => False) s) :
    Seg M A R Y n s₀ c ((exec (.If test body orelse pos) env).wrap K H gd lv) fs s := by
  rw [exec_If]
  refine seg_bind_wrap (wpAny_standAt ?_)
  refine seg_bind_wrap (wpAny_mono h (fun b s' h' => ?_) fun _ _ x => x.elim)
  cases b <;> exact h'

theorem segStmt {st : Stmt} {rest : List Stmt}
    (h : wpAny M (A.over c fs) (exec st env) (fun f s' => f = .next ∧ Seg M A R Y n s₀ c ((execs rest env).wrap K H gd lv) fs s') (fun _ _ => False) s) :
    Seg M A R Y n s₀ c ((execs (st :: rest) env).wrap K H gd lv) fs s := by
  refine seg_execs_cons (seg_wrap (wpAny_mono h (fun f s' h' => ?_) fun _ _ x => x.elim))
  obtain ⟨rfl, h'⟩ := h'
  exact h'

def ownBack (env : Env) (K : Flow → Sem Fin) (H : Value → Sem Fin) (gd : Bool → Bool) (lv : List Value → List Value) : Result → Sem Fin :=
  fun r => ((match r with | .ok f => (.pure f : Sem Flow) | .error e => .raise e).onRaise fun (x : Value) => do
        if (← field x 1) == Value.none then unsupported "frame.own-activation:exception-without-traceback"
        setFlight x env.frame).wrap K H gd lv

theorem segFor {target iter : PySem.Expr} {body orelse : List Stmt} {pos : Pos} (hs : ∀ x, foldedSetIterable iter env x = pure x)
    (h : wpAny M (A.over c fs) (eval iter env) (fun x s₁ => wpAny M (A.over c fs) (pyIter x) (fun it s₂ =>
      ∀ p, Seg M A R Y n s₀ (.forLoop target it body orelse env) (M.den (.forLoop target it body orelse env))
        (.ret (ownBack env K H gd lv) none (gd false) (lv []) c p [] :: fs) s₂) (fun _ _ => False) s₁) (fun _ _ => False) s) :
    Seg M A R Y n s₀ c ((exec (.For target iter body orelse pos) env).wrap K H gd lv) fs s := by
  rw [exec_For]
  refine seg_bind_wrap (wpAny_standAt ?_)
  refine seg_bind_wrap (wpAny_mono h (fun x s₁ h₁ => ?_) fun _ _ x => x.elim)
  refine seg_bind_wrap (wpAny_of_eq (hs x) ?_)
  refine seg_bind_wrap (wpAny_standAt ?_)
  refine seg_bind_wrap (wpAny_holding (wpAny_mono h₁ (fun it s₂ h₂ => ?_) fun _ _ x => x.elim))
  exact seg_call h₂
end

section
variable {prog : Program} {w : World} {A : Around} {R : GenEnd} {Y : Protocol} {n : Nat} {s₀ : Shared} {fs : List Frame} {s : Shared} {env : Env}

def noteH (env : Env) (e : Value) : Sem Fin := (do noteFrame e env; theTreesLotGoes e : Sem Unit).bind (fun _ => .raise e)

theorem segLoop {target : PySem.Expr} {it : Value} {body orelse : List Stmt}
    (h : wpAny (model prog w) (A.over (.forLoop target it body orelse env) fs) (pyNext it) (fun r s₁ => match r with
      | none => Seg (model prog w) A R Y n s₀ (.block orelse env) ((model prog w).den (.block orelse env)) fs s₁
      | some v => wpAny (model prog w) (A.over (.forLoop target it body orelse env) fs) (letOwnedTupleGo target it v) (fun _ s₂ =>
          wpAny (model prog w) (A.over (.forLoop target it body orelse env) fs) (assign target env v) (fun _ s₃ =>
            Seg (model prog w) A R Y n s₀ (.forLoop target it body orelse env) ((execs body env).wrap (fun f => match f with
              | .next | .cont => .pure (.again (.forLoop target it body orelse env))
              | .brk => .pure (.done .next)
              | .ret v => .pure (.done (.ret v))) (noteH env) id id) fs s₃) (fun _ _ => False) s₂) (fun _ _ => False) s₁) (fun _ _ => False) s) :
    Seg (model prog w) A R Y n s₀ (.forLoop target it body orelse env) ((model prog w).den (.forLoop target it body orelse env)) fs s := by
  show Seg _ A R Y n s₀ _ ((forTurn target it body orelse env).onRaise (fun x => do noteFrame x env; theTreesLotGoes x)) fs s
  unfold forTurn
  rw [Sem.onRaise_eq_wrap]
  refine seg_bind_wrap (wpAny_standAt ?_)
  refine seg_bind_wrap (wpAny_onRaise (wpAny_mono h (fun r s₁ h₁ => ?_) fun _ _ x => x.elim))
  cases r with
  | none => exact seg_again rfl h₁
  | some v =>
    refine seg_bind_wrap (wpAny_mono h₁ (fun _ s₂ h₂ => ?_) fun _ _ x => x.elim)
    refine seg_bind_wrap (wpAny_mono h₂ (fun _ s₃ h₃ => ?_) fun _ _ x => x.elim)
    rw [Sem.bind_eq_wrap', Sem.wrap_wrap]
    refine Eq.mpr (congrArg (fun t => Seg (model prog w) A R Y n s₀ (.forLoop target it body orelse env) t fs s₃)
      (Sem.wrap_congr (execs body env) (fun g => id (id g)) (fun l => id (id l)) (fun f => ?_) (fun e => ?_))) h₃
    · cases f <;> rfl
    · rfl

theorem segBlockNil {k h g l c₁ p₁ kp} (hk : Seg (model prog w) A R Y n s₀ c₁ (k (.ok .next)) fs s) :
    Seg (model prog w) A R Y n s₀ (.block [] env) ((model prog w).den (.block [] env)) (.ret k h g l c₁ p₁ kp :: fs) s := by
  exact seg_leaf (.ok .next) hk
end
end Mine

-- part G2
namespace Mine
theorem startG2 : True := by
  w_top off
  trivial
def Tag (_ : OpenLaw) (P : Prop) : Prop := P
theorem fill (w : World) : Tag PySem.Challenge.rw_rl0016_01 (hd.heap_39 w.params = hd.heap_39 w.params) := by
  w_top off
  k_fill
  exact rfl

def toksOf : Bool → Nat → List Nat → List (Nat × List Nat)
  | true, i, [] => [(i - 1, [92])]
  | false, _, [] => []
  | true, i, c :: cs => (i, [92, c]) :: toksOf false (i + 1) cs
  | false, i, c :: cs => if c = 92 then toksOf true (i + 1) cs else (i, [c]) :: toksOf false (i + 1) cs

def tokOut (s : Shared) (v : Value) (tok : Nat × List Nat) : Prop :=
  ∃ T t1 t2, v = .ref T ∧ s.heap.IsTuple T #[.int (tok.1 : Int) t1, .str ⟨tok.2.toArray⟩ t2]

def itProto (C e j : Addr) (tl : List (Nat × List Nat)) : Protocol := fun m s₀ v s kap =>
  (∃ tok, tl[tl.length - 1 - m]? = some tok ∧ tokOut s v tok) ∧ GenSince C [e, j] s₀ s ∧
    ∀ s'' : Shared, (∀ b ∈ [C, e, j], ∀ o, s.heap.get? b = some o → s''.heap.get? b = some o) → kap (.send .none) s''

abbrev itEnd (C e j : Addr) : GenEnd := fun n s₀ r s₁ => r = .ok (.ret .none) ∧ (fun n s₀ s₁ => n = 0 ∧ GenSince C [e, j] s₀ s₁) n s₀ s₁

theorem segInd {M : Model} {A : Around} {R : GenEnd} {Y : Protocol} {c : Code} {t : Sem Fin} {fs : List Frame} (N : Nat) (P : Nat → Bool → Shared → Shared → Prop) (len : Nat → Bool → Nat)
    (step : ∀ i esc s₀ s, i ≤ N → P i esc s₀ s → (i < N → ∀ esc' s₀' s', P (i + 1) esc' s₀' s' → Seg M A R Y (len (i + 1) esc') s₀' c t fs s') → Seg M A R Y (len i esc) s₀ c t fs s) :
    ∀ i esc s₀ s, i ≤ N → P i esc s₀ s → Seg M A R Y (len i esc) s₀ c t fs s := by
  have key : ∀ k i esc s₀ s, N - i = k → i ≤ N → P i esc s₀ s → Seg M A R Y (len i esc) s₀ c t fs s := by
    intro k
    induction k with
    | zero => exact fun i esc s₀ s hk hi hp => step i esc s₀ s hi hp fun hlt => absurd hlt (by omega)
    | succ k ih => exact fun i esc s₀ s hk hi hp => step i esc s₀ s hi hp fun hlt esc' s₀' s' hp' => ih (i + 1) esc' s₀' s' (by omega) hlt hp'
  exact fun i esc s₀ s hi hp => key _ i esc s₀ s rfl hi hp

theorem idxSuffix {α : Type} {tl pre rest : List α} {tok : α} (h : tl = pre ++ tok :: rest) : tl[tl.length - 1 - rest.length]? = some tok := by
  subst h
  rw [List.length_append, List.length_cons, show pre.length + (rest.length + 1) - 1 - rest.length = pre.length by omega, List.getElem?_append_right (Nat.le_refl _), Nat.sub_self]
  rfl

theorem escStr (c : Nat) : Str.ofString "\\" ++ (⟨#[c]⟩ : Str) = ⟨[92, c].toArray⟩ := by
  rw [show Str.ofString "\\" = (⟨#[92]⟩ : Str) from by decide +kernel]; rfl
theorem bsStr : Str.ofString "\\" = (⟨[92].toArray⟩ : Str) := by decide +kernel
theorem chEq (c : Nat) : ((⟨#[c]⟩ : Str) == Str.ofString "\\") = decide (c = 92) := by
  rw [bsStr]
  by_cases h : c = 92
  · subst h; decide +kernel
  · rw [decide_eq_false h]
    refine beq_eq_false_iff_ne.mpr fun e => h ?_
    have := congrArg (fun s : Str => s.cps.toList) e
    simpa using this

theorem iter_call {w : World} {loose : List Str} {mean : ExcName → Option Value} {mg mb : Str → Option Value} {A : Around} {h₀ : Heap} {L : Addr} {m : Str → Option Value} {s : Shared} {Q E : Value → Shared → Prop} {x : Str} {t : Tok}
    (F : Fr h₀ L s.heap m) (X : (hd.heap_39 w.params).In h₀) (T : Top hd.view_39 loose mean mg mb h₀) (hroom : A.depth < recursionLimit)
    (ret : ∀ (gs : GenState) (h' : Heap) (tk : Nat), gs.bare = true → (∀ b o, s.heap.get? b = some o → h'.get? b = some o) → h'.objs.size = s.heap.objs.size + 2 → h'.IsGen (s.heap.objs.size + 1) s.gens.size →
      (∀ A' : Around, A'.handled = none → gs.Goes (model PySem.Challenge.rw_rl0016_01.row.toRowW.prog w) A' (itEnd s.heap.objs.size (s.heap.objs.size + 3) (s.heap.objs.size + 2))
        (itProto s.heap.objs.size (s.heap.objs.size + 3) (s.heap.objs.size + 2) (toksOf false 0 x.cps.toList)) (toksOf false 0 x.cps.toList).length (.send .none)
        ({ s with heap := h', toks := tk, gens := s.gens.push gs }.setGen s.gens.size .running)) →
      Q (.ref (s.heap.objs.size + 1)) { s with heap := h', toks := tk, gens := s.gens.push gs }) :
    wpAny (model PySem.Challenge.rw_rl0016_01.row.toRowW.prog w) A (call (.ref 21) [.str x t]) Q E s := by
  have Xs := X.keeps F.keep
  refine wpAny_call ?_
  refine codeAny_call_generator hroom (Xs 21 _ (by k_is)) rfl rfl rfl rfl (codeRec_of Xs (by k_is)) ?_
  refine (BindsTo.of_eq (binds := [(Str.ofString "addr", .str x t)]) rfl) _ _ _ _ ?_
  refine wpAny_newFunctionEnv (by decide) (locs rfl) (fun h' hns hsb => ⟨?_, ?_⟩) rfl
  · exact (T.nolimit.keeps F.keep).fresh _ hsb
  · have hsz : h'.objs.size = s.heap.objs.size + 1 := by rw [hsb.1, Heap.size_push]
    have hk : ∀ b o, s.heap.get? b = some o → h'.get? b = some o := fun b o e => hsb.extBut b o (Nat.ne_of_lt (Heap.lt_size e)) (Heap.get?_push_of_some _ e)
    show Q (.ref h'.objs.size) _
    rw [hsz]
    refine ret _ _ _ rfl (fun b o e => Heap.get?_push_of_some _ (hk b o e)) (by rw [Heap.size_push, hsz]) ⟨_, _, _, hsz ▸ Heap.get?_push_size _ rfl, rfl, rfl, rfl⟩ fun A' hh => ?_
    refine ⟨rfl, ?_⟩
    refine seg_func ?_
    generalize hS : Shared.setGen _ _ _ = S
    have FG : Fr s.heap s.heap.objs.size S.heap (fun y => List.lookup y [(Str.ofString "addr", Value.str x t)]) := by
      subst hS
      exact ⟨hns.push _, fun b o e => Heap.get?_push_of_some _ (hk b o e), Nat.le_refl _⟩
    have hSz : S.heap.objs.size = s.heap.objs.size + 2 := by
      subst hS
      show (h'.push _).objs.size = _
      rw [Heap.size_push, hsz]
    clear hS hns hsb hsz hk h' ret
    generalize hC : s.heap.objs.size = C at FG hSz ⊢
    generalize htl : toksOf false 0 x.cps.toList = tl
    generalize hE : newEnv _ _ _ _ _ _ _ _ _ = env
    have eL : env.locals = C := by subst hE; rfl
    have eG : env.globals = mainGlobals := by subst hE; rfl
    have eB : env.builtins = builtinsNs := by subst hE; rfl
    have ek : env.scope.kind = .function := by subst hE; rfl
    have ec : env.scope.isCoroutine = false := by subst hE; rfl
    have ei : interactive env = false := by subst hE; rfl
    have ep : (env.scope.kind == .class || (env.scope.kind == .module && env.locals != env.globals)) = false := by rw [ek]; rfl
    have k1 : env.kindOf (Str.ofString "pos") = some .local := by subst hE; rfl
    have k2 : env.kindOf (Str.ofString "escape") = some .local := by subst hE; rfl
    have k3 : env.kindOf (Str.ofString "ch") = some .local := by subst hE; rfl
    have k4 : env.kindOf (Str.ofString "addr") = some .local := by subst hE; rfl
    have k5 : env.kindOf (Str.ofString "enumerate") = some .globalImplicit := by subst hE; rfl
    clear hE
    subst eL
    have n0 := FG.ns
    refine segStmt (wpAny_Assign_Name (wpAny_Constant_int (wpAny_storeName_local k1 n0 (fun h1 n1 s1 => ⟨rfl, ?_⟩) ep)))
    refine segStmt (wpAny_Assign_Name (wpAny_Constant_bool (wpAny_storeName_local k2 n1 (fun h2 n2 s2 => ⟨rfl, ?_⟩) ep)))
    have F2 := (FG.set n1 s1).set n2 s2
    have z2 : h2.objs.size = env.locals + 2 := by rw [s2.1]; show h1.objs.size = _; rw [s1.1, hSz]
    have kp : ∀ b o, h₀.get? b = some o → h2.get? b = some o := fun b o e => F2.keep b o (F.keep b o e)
    refine seg_execs_cons (segFor (fun _ => rfl) ?_)
    refine Call_ (Name_function_global ek k5 (loadGlobal_builtin (by rw [eG]; exact T.g.keeps kp) (mg_none_of X T.g (by k_is)) (by rw [eB]; exact T.b.keeps kp) ((T.builtins _ (by decide)).trans boot_enumerate) ?_))
    refine PyProof.Rows.callWith_type1 (args_cons (wpAny_Name (wpAny_loadName_local ek k4 n2 rfl (args_nil ?_))))
    refine call_enumerate_str fun h3 he3 hit3 hz3 hk3 => ?_
    replace he3 : IsEnum h3 (h2.objs.size + 1) h2.objs.size 0 .none := he3
    replace hit3 : h3.IsStrIter h2.objs.size (strIterType x) x t 0 := hit3
    replace hk3 : ∀ b o, h2.get? b = some o → h3.get? b = some o := hk3
    refine wpAny_pyIter_enum he3 ?_
    intro p
    show Seg _ _ _ _ _ _ (.forLoop _ (.ref (h2.objs.size + 1)) _ _ _) _ _ _
    rw [z2] at he3 hit3 ⊢
    obtain ⟨St, D, hst0⟩ : ∃ St : Nat → Heap → Prop, (∀ A'' : Around, A''.handled = none → Draws PySem.Challenge.rw_rl0016_01.row.toRowW.prog w A'' (env.locals + 2) [env.locals + 2] x.cps.size
        (fun i v => ∃ c u, x.cps[i]? = some c ∧ v = .str ⟨#[c]⟩ u) St) ∧ St 0 h3 := by
      cases ha : x.cps.all (· < 128)
      · exact ⟨_, fun A'' hA => Draws.strWide hA _ x t, by simpa [strIterType, ha] using hit3⟩
      · exact ⟨_, fun A'' hA => Draws.strAscii hA _ x t, by simpa [strIterType, ha] using hit3⟩
    have W : ∀ A'' : Around, A''.handled = none → WalksT PySem.Challenge.rw_rl0016_01.row.toRowW.prog w A'' (env.locals + 3) [env.locals + 3, env.locals + 2] [env.locals + 3, env.locals + 2] x.cps.size
        (fun i vals => ∃ t x', (∃ c u, x.cps[i]? = some c ∧ x' = .str ⟨#[c]⟩ u) ∧ vals = #[.int i t, x'])
        (fun i h => (∃ old, IsEnum h (env.locals + 3) (env.locals + 2) i old) ∧ St i h)
        (fun i T h => (∃ x, IsEnumOut h (env.locals + 3) (env.locals + 2) ((i : Int) + 1) x T) ∧ St (i + 1) h ∧ T ≠ env.locals + 3 ∧ T ≠ env.locals + 2) :=
      fun A'' hA => WalksT.enumerateD (D A''.in1 hA) (env.locals + 3) (Nat.succ_ne_self _) (by simp) (by simp)
    have hov : ∀ c k g l c' p, (A'.over c [Frame.ret k none g l c' p []]).handled = none := fun c k g l c' p => by
      show (marksOver [Frame.ret k none g l c' p []] (A'.handled, A'.handled)).1 = none
      rw [hh]; rfl
    rw [show tl.length = (toksOf false 0 (x.cps.toList.drop 0)).length by rw [← htl]; rfl]
    refine segInd x.cps.size (fun i esc s₀ s' => ∃ m' tp, ((∃ old, IsEnum s'.heap (env.locals + 3) (env.locals + 2) i old) ∧ St i s'.heap) ∧ s'.heap.Ns env.locals m' ∧
      m' (Str.ofString "escape") = some (.bool esc) ∧ m' (Str.ofString "pos") = some (.int ((i - 1 : Nat) : Int) tp) ∧ GenSince env.locals [env.locals + 3, env.locals + 2] s₀ s' ∧
      ∃ pre, tl = pre ++ toksOf esc i (x.cps.toList.drop i)) (fun i esc => (toksOf esc i (x.cps.toList.drop i)).length) ?_ 0 false _ _ (Nat.zero_le _) ?_
    · rintro i esc s₀ s' hi ⟨m', tp, hst, hn, hme, hmp, hsince, pre, hpre⟩ ih
      by_cases hlt : i < x.cps.size
      · have hdr : x.cps.toList.drop i = x.cps[i] :: x.cps.toList.drop (i + 1) := by
          rw [List.drop_eq_getElem_cons (by simpa using hlt)]; simp
        refine segLoop ((W _ (hov ..)).item i s' _ _ hlt hst fun T vals h4 tk4 hPt hT4 hTup4 hMid4 hk4 => ?_)
        obtain ⟨t4, _, ⟨c, u, hc, rfl⟩, rfl⟩ := hPt
        have hc' : x.cps[i] = c := by rw [Array.getElem?_eq_getElem hlt] at hc; exact Option.some.inj hc
        rw [hc'] at hdr
        refine (W _ (hov ..)).go _ _ _ i T _ _ _ hMid4 fun h5 hst5 hk5 => ?_
        have hTw := (W A' hh).apart _ _ _ hMid4
        replace hk5 : ∀ b o, b ∉ [env.locals + 3, env.locals + 2] → h4.get? b = some o → h5.get? b = some o := hk5
        have hTup5 : h5.IsTuple T #[.int i t4, .str ⟨#[c]⟩ u] := by
          obtain ⟨o, ho, r⟩ := hTup4
          exact ⟨o, hk5 _ _ hTw ho, r⟩
        refine wpAny_assign_Tuple (hov ..) hTup5 rfl rfl fun h6 hx6 => ?_
        have hCw : env.locals ∉ [env.locals + 3, env.locals + 2] := fun hm => by
          rcases List.mem_cons.mp hm with e | hm
          · exact Nat.ne_of_lt (Nat.lt_add_of_pos_right (by decide)) e
          · exact Nat.ne_of_lt (Nat.lt_add_of_pos_right (by decide)) (List.mem_singleton.mp hm)
        replace hx6 : Heap.ExtBut h5.objs.size h5 h6 := hx6
        have hx6' : ∀ b o, h5.get? b = some o → h6.get? b = some o := fun b o e => hx6 b o (Nat.ne_of_lt (Heap.lt_size e)) e
        have n5 : h6.Ns env.locals m' := (hn.at' fun o e => hk5 _ o hCw (hk4 _ o hCw e)).keeps hx6'
        show wpAny _ _ (do holding [Value.str ⟨#[c]⟩ u] (assign (.Name (Str.ofString "pos") _) env (.int i t4)); do holding [] (assign (.Name (Str.ofString "ch") _) env (Value.str ⟨#[c]⟩ u)); pure ()) _ _ _
        refine wpAny_bind (wpAny_holding (wpAny_assign_Name (wpAny_storeName_local k1 n5 (fun h7 n7 s7 => ?_) ep)))
        refine wpAny_bind (wpAny_holding (wpAny_assign_Name (wpAny_storeName_local k3 n7 (fun h8 n8 s8 => wpAny_pure ?_) ep)))
        replace s7 : Heap.SameBut env.locals h6 h7 := s7
        replace s8 : Heap.SameBut env.locals h7 h8 := s8
        have hst8 : (∃ old, IsEnum h8 (env.locals + 3) (env.locals + 2) ((i + 1 : Nat) : Int) old) ∧ St (i + 1) h8 :=
          (W A' hh).frame (i + 1) h5 h8 hst5 fun b hb o e => by
            have hbC : b ≠ env.locals := fun q => hCw (q ▸ hb)
            exact s8.extBut b o hbC (s7.extBut b o hbC (hx6' b o e))
        have hsince8 : ∀ tk, GenSince env.locals [env.locals + 3, env.locals + 2] s₀ { s' with heap := h8, toks := tk } := fun tk => hsince.step fun b o hbC hbw e =>
          s8.extBut b o hbC (s7.extBut b o hbC (hx6' b o (hk5 b o hbw (hk4 b o hbw e))))
        refine seg_execs_cons (segIf (wpAny_isTrue_value (wpAny_Name (wpAny_loadName_local ek k2 n8 hme (wpAny_truthy_bool ?_)))))
        have hup : ∀ (s'' : Shared) (m'' : Str → Option Value) (v : Bool) (h9 : Heap), h9.Ns env.locals m'' → m'' (Str.ofString "escape") = some (.bool v) → m'' (Str.ofString "pos") = some (.int i t4) →
            (∀ b ∈ [env.locals + 3, env.locals + 2], ∀ o, h8.get? b = some o → h9.get? b = some o) → (∃ pre, tl = pre ++ toksOf v (i + 1) (x.cps.toList.drop (i + 1))) →
            ∀ (tk : Nat) (sz : Shared), sz.heap = h9 → GenSince env.locals [env.locals + 3, env.locals + 2] s'' sz →
            ∃ m' tp, ((∃ old, IsEnum sz.heap (env.locals + 3) (env.locals + 2) ((i + 1 : Nat) : Int) old) ∧ St (i + 1) sz.heap) ∧ sz.heap.Ns env.locals m' ∧
              m' (Str.ofString "escape") = some (.bool v) ∧ m' (Str.ofString "pos") = some (.int ((i + 1 - 1 : Nat) : Int) tp) ∧ GenSince env.locals [env.locals + 3, env.locals + 2] s'' sz ∧
              ∃ pre, tl = pre ++ toksOf v (i + 1) (x.cps.toList.drop (i + 1)) := by
          rintro s'' m'' v _ nn e1 e2 hal hp tk sz rfl hg
          exact ⟨m'', t4, (W A' hh).frame (i + 1) h8 sz.heap hst8 hal, nn, e1, e2, hg, hp⟩
        cases esc with
        | true =>
          rw [if_pos rfl]
          rw [hdr] at hpre
          show Seg _ _ _ _ (toksOf true i (x.cps.toList.drop i)).length _ _ _ _ _
          rw [hdr]
          show Seg _ _ _ _ ((toksOf false (i + 1) (x.cps.toList.drop (i + 1))).length + 1) _ _ _ _ _
          refine seg_execs_cons (seg_Expr_Yield rfl rfl rfl ?_ ec ei)
          refine Tuple_ (args_cons (wpAny_Name (wpAny_loadName_local ek k1 n8 rfl ?_)))
          refine args_cons (wpAny_BinOp (wpAny_Constant_str (wpAny_Name (wpAny_loadName_local ek k3 n8 rfl (PyProof.Rows.add_str (fun t9 tk9 => args_nil ?_))))))
          rw [escStr]
          refine wpAny_newTuple fun kap hkap => ?_
          refine ⟨⟨_, idxSuffix hpre, _, _, _, rfl, ⟨_, Heap.get?_push_size _ rfl, rfl, _, rfl⟩⟩, ?_, fun s'' hal => hkap .none s'' ?_⟩
          · exact (hsince8 0).step fun b o _ _ e => Heap.get?_push_of_some _ e
          · replace hal : ∀ b ∈ [env.locals, env.locals + 3, env.locals + 2], ∀ o, h8.get? b = some o → s''.heap.get? b = some o := fun b hb o e => hal b hb o (Heap.get?_push_of_some _ e)
            have n9 := n8.at' fun o e => hal _ (List.mem_cons_self ..) o e
            refine segStmt (wpAny_Assign_Name (wpAny_Constant_bool (wpAny_storeName_local k2 n9 (fun h10 n10 s10 => ⟨rfl, ?_⟩) ep)))
            refine seg_execs_nil (seg_again rfl (ih hlt false s'' _ (hup s'' _ false h10 n10 rfl rfl (fun b hb o e => ?_) ⟨pre ++ [(i, [92, c])], by rw [hpre]; simp [toksOf]⟩ 0 _ rfl ?_)))
            · exact s10.extBut b o (fun q => hCw (q ▸ hb)) (hal b (List.mem_cons_of_mem _ hb) o e)
            · exact ⟨_, _, rfl, fun b o hbC _ e => s10.extBut b o hbC e⟩
        | false =>
          rw [if_neg Bool.false_ne_true]
          rw [hdr] at hpre
          show Seg _ _ _ _ (toksOf false i (x.cps.toList.drop i)).length _ _ _ _ _
          rw [hdr]
          refine seg_execs_cons (segIf (wpAny_isTrue_Compare1 (wpAny_Name (wpAny_loadName_local ek k3 n8 rfl (wpAny_Constant_str (PyProof.Rows.eq_str (wpAny_truthy_bool ?_)))))))
          rw [chEq]
          by_cases h92 : c = 92
          · rw [decide_eq_true h92, if_pos rfl]
            have e1 : toksOf false i (c :: x.cps.toList.drop (i + 1)) = toksOf true (i + 1) (x.cps.toList.drop (i + 1)) := by simp [toksOf, h92]
            rw [e1] at hpre ⊢
            refine segStmt (wpAny_Assign_Name (wpAny_Constant_bool (wpAny_storeName_local k2 n8 (fun h10 n10 s10 => ⟨rfl, ?_⟩) ep)))
            refine seg_execs_nil (seg_again rfl (ih hlt true s₀ _ (hup s₀ _ true h10 n10 rfl rfl (fun b hb o e => ?_) ⟨pre, hpre⟩ 0 _ rfl ?_)))
            · exact s10.extBut b o (fun q => hCw (q ▸ hb)) e
            · exact (hsince8 0).step fun b o hbC _ e => s10.extBut b o hbC e
          · rw [decide_eq_false h92, if_neg Bool.false_ne_true]
            have e1 : toksOf false i (c :: x.cps.toList.drop (i + 1)) = (i, [c]) :: toksOf false (i + 1) (x.cps.toList.drop (i + 1)) := by simp [toksOf, h92]
            rw [e1] at hpre ⊢
            show Seg _ _ _ _ ((toksOf false (i + 1) (x.cps.toList.drop (i + 1))).length + 1) _ _ _ _ _
            refine seg_execs_cons (seg_Expr_Yield rfl rfl rfl ?_ ec ei)
            refine Tuple_ (args_cons (wpAny_Name (wpAny_loadName_local ek k1 n8 rfl ?_)))
            refine args_cons (wpAny_Name (wpAny_loadName_local ek k3 n8 rfl (args_nil ?_)))
            refine wpAny_newTuple fun kap hkap => ?_
            refine ⟨⟨_, idxSuffix hpre, _, _, _, rfl, ⟨_, Heap.get?_push_size _ rfl, rfl, _, rfl⟩⟩, ?_, fun s'' hal => hkap .none s'' ?_⟩
            · exact (hsince8 0).step fun b o _ _ e => Heap.get?_push_of_some _ e
            · replace hal : ∀ b ∈ [env.locals, env.locals + 3, env.locals + 2], ∀ o, h8.get? b = some o → s''.heap.get? b = some o := fun b hb o e => hal b hb o (Heap.get?_push_of_some _ e)
              have n9 := n8.at' fun o e => hal _ (List.mem_cons_self ..) o e
              refine seg_execs_nil (seg_again rfl (ih hlt false s'' _ (hup s'' _ false s''.heap n9 hme rfl (fun b hb o e => ?_) ⟨pre ++ [(i, [c])], by rw [hpre]; simp⟩ 0 _ rfl (GenSince.refl _ _ _))))
              exact hal b (List.mem_cons_of_mem _ hb) o e
      · have hin : i = x.cps.size := by omega
        subst hin
        have hdr : x.cps.toList.drop x.cps.size = [] := List.drop_of_length_le (by simp)
        refine segLoop ((W _ (hov ..)).done s' _ _ hst fun h4 tk4 hk4 => ?_)
        have hCw : env.locals ∉ [env.locals + 3, env.locals + 2] := fun hm => by
          rcases List.mem_cons.mp hm with e | hm
          · exact Nat.ne_of_lt (Nat.lt_add_of_pos_right (by decide)) e
          · exact Nat.ne_of_lt (Nat.lt_add_of_pos_right (by decide)) (List.mem_singleton.mp hm)
        have n4 : h4.Ns env.locals m' := hn.at' fun o e => hk4 _ o hCw e
        have hs4 : ∀ tk, GenSince env.locals [env.locals + 3, env.locals + 2] s₀ { s' with heap := h4, toks := tk } := fun tk => hsince.step fun b o _ hbw e => hk4 b o hbw e
        refine segBlockNil ?_
        show Seg _ _ _ _ _ _ _ ((execs _ env).wrap _ _ _ _) _ _
        refine seg_execs_cons (segIf (wpAny_isTrue_value (wpAny_Name (wpAny_loadName_local ek k2 n4 hme (wpAny_truthy_bool ?_)))))
        rw [hdr] at hpre
        show if esc = true then Seg _ _ _ _ (toksOf esc x.cps.size (x.cps.toList.drop x.cps.size)).length _ _ _ _ _ else Seg _ _ _ _ (toksOf esc x.cps.size (x.cps.toList.drop x.cps.size)).length _ _ _ _ _
        rw [hdr]
        cases esc with
        | true =>
          rw [if_pos rfl]
          show Seg _ _ _ _ (0 + 1) _ _ _ _ _
          refine seg_execs_cons (seg_Expr_Yield rfl rfl rfl ?_ ec ei)
          refine Tuple_ (args_cons (wpAny_Name (wpAny_loadName_local ek k1 n4 hmp ?_)))
          refine args_cons (wpAny_Constant_str (args_nil ?_))
          rw [bsStr]
          refine wpAny_newTuple fun kap hkap => ?_
          refine ⟨⟨_, idxSuffix (rest := []) hpre, _, _, _, rfl, ⟨_, Heap.get?_push_size _ rfl, rfl, _, rfl⟩⟩, ?_, fun s'' hal => hkap .none s'' ?_⟩
          · exact (hs4 0).step fun b o _ _ e => Heap.get?_push_of_some _ e
          · exact seg_end (.ok (.ret .none)) ⟨rfl, rfl, GenSince.refl _ _ _⟩
        | false =>
          rw [if_neg Bool.false_ne_true]
          exact seg_end (.ok (.ret .none)) ⟨rfl, rfl, hs4 _⟩
    · refine ⟨_, S.toks, ⟨⟨_, he3⟩, hst0⟩, n2.keeps hk3, ?_, ?_, ?_, [], ?_⟩
      · rfl
      · rfl
      · refine ⟨_, _, rfl, fun b o hb hw e => ?_⟩
        exact hk3 b o (s2.extBut b o hb (s1.extBut b o hb e))
      · rw [← htl]; rfl
end Mine

-- part G3
namespace Mine
theorem startG3 : True := by
  w_top off
  trivial

section
variable {prog : Program} {w : World} {A : Around} {E : Value → Shared → Prop} {s : Shared}

theorem nextGen {a : Addr} {g n : Nat} {gs : GenState} {P : Nat → Shared → Shared → Prop} {Y : Protocol} {Q : Option Value → Shared → Prop} (hh : A.handled = none)
    (hl : s.heap.NoLimit) (hroom : A.depth < recursionLimit) (hg : s.heap.IsGen a g) (hgs : s.gens[g]? = some gs)
    (hgo : gs.Goes (model prog w) A.in1 (fun n s₀ r s₁ => r = .ok (.ret .none) ∧ P n s₀ s₁) Y n (.send .none) (s.setGen g .running))
    (hY : ∀ v s₁ gs', gs'.bare = true → Y (n - 1) (s.setGen g .running) v s₁ (fun r' s'' => match n with
        | 0 => False
        | m + 1 => gs'.Goes (model prog w) A.in1 (fun n s₀ r s₁ => r = .ok (.ret .none) ∧ P n s₀ s₁) Y m r' s'') → Q (some v) (s₁.setGen g gs'))
    (hP : ∀ s₁, P n (s.setGen g .running) s₁ → ∀ h', (∀ b o, s₁.heap.get? b = some o → h'.get? b = some o) → Q none { s₁.setGen g .finished with heap := h' }) :
    wpAny (model prog w) A (pyNext (.ref a)) Q E s := by
  unfold pyNext
  refine wpAny_bind (wpAny_attempt (wpAny_callSpecial?_slot (name := Str.ofString "__next__") hg.typeIs slot_gen_next
    (wpAny_call_entry slot_gen_next hg.typeIs entry_gen_next ?_ (args_gen_next _))))
  show wpAny _ _ (Builtin.Generator.genWake (.ref a) (.send .none)) _ _ s
  unfold Builtin.Generator.genWake
  refine wpAny_bind (wpAny_holding (wpAny_genNumber hg (wpAny_bind (wpAny_genState hgs ?_))))
  cases gs with
  | running => exact hgo.elim
  | finished => exact hgo.elim
  | _ =>
    refine wpAny_bind (wpAny_roomToWake hl hroom ?_)
    show wpAny _ _ (.resume g (.send .none) [] _) _ _ s
    refine wpAny_resumeQ hgs hgo (fun x s₁ hx => ?_) (fun v s₁ gs' hb hv => wpAny_pure ⟨v, rfl, wpAny_pure (hY v s₁ gs' hb hv)⟩)
    obtain ⟨rfl, hp⟩ := hx
    show wpAny _ _ (newExc (.type "StopIteration") [] >>= _) _ _ _
    refine wpAny_bind ?_
    simp only [newExc, newTuple]
    refine wpAny_bind (wpAny_newObj_type ?_ (by size_fits))
    refine wpAny_bind (m := firstArgMember _ _) (wpAny_of_eq (a := Value.none) (by first | rfl | (simp only [firstArgMember]; rfl)) ?_)
    refine wpAny_newObj_type ?_ (by size_fits)
    simp only [raiseNew]
    refine wpAny_bind (wpAny_bind (wpAny_handled ?_))
    first | rw [show A.in1.handled = none from hh] | rw [hh]
    refine wpAny_throw ?_
    refine wpAny_bind (wpAny_isInstance (T := "StopIteration") (b := true) ⟨_, Heap.get?_push_size _ rfl, rfl⟩ isSubtype_stop ?_)
    exact wpAny_pure (hP s₁ hp _ fun b o hb => Heap.get?_push_of_some _ (Heap.get?_push_of_some _ hb))

theorem goGen {elts : List PySem.Expr} {x1} {pos : Pos} {a T : Addr} {g : Nat} {Q : Unit → Shared → Prop} (hg : s.heap.IsGen a g) (h : Q () s) :
    wpAny (model prog w) A (letOwnedTupleGo (.Tuple elts x1 pos) (.ref a) (.ref T)) Q E s := by
  obtain ⟨o, nm, qn, ho, hc, hd, _⟩ := hg
  unfold letOwnedTupleGo
  refine wpAny_bind (wpAny_load ho ?_)
  rw [hc, hd]
  exact wpAny_pure h
end

def ownOf (h : Heap) (l : List Addr) : List (Addr × Obj) := l.filterMap fun b => (h.get? b).map fun o => (b, o)
theorem mem_ownOf {h : Heap} {l : List Addr} {p : Addr × Obj} (hp : p ∈ ownOf h l) : p.1 ∈ l ∧ h.get? p.1 = some p.2 := by
  obtain ⟨b, hb, e⟩ := List.mem_filterMap.mp hp
  obtain ⟨o, ho, rfl⟩ := Option.map_eq_some_iff.mp e
  exact ⟨hb, ho⟩
theorem ownOf_mem {h : Heap} {l : List Addr} {b : Addr} {o : Obj} (hb : b ∈ l) (ho : h.get? b = some o) : (b, o) ∈ ownOf h l :=
  List.mem_filterMap.mpr ⟨b, hb, by rw [ho]; rfl⟩

abbrev StepOut (h₀ : Heap) (L : Addr) (own news : List (Addr × Obj)) (J : (Str → Option Value) → List (Addr × Obj) → Prop) (R : Result → Shared → Prop) (s₁ : Shared) : Flow → Shared → Prop := fun f s₂ => match f with
  | .next | .cont => ∃ h tk m₂ news₂, s₂ = { s₁ with heap := h, toks := tk } ∧ Fr h₀ L h m₂ ∧ News h₀ L h (own ++ news₂) ∧ news₂.map (·.1) = news.map (·.1) ∧ J m₂ news₂
  | .brk => R (.ok .next) s₂
  | .ret v => R (.ok (.ret v)) s₂

theorem loop_tokens {prog : Program} {w : World} {A : Around} {R : Result → Shared → Prop} {s : Shared} {env : Env} {h₀ : Heap} {m : Str → Option Value} {news : List (Addr × Obj)} {xi xc : Str} {pi pc pt : Pos} {x1 : Nat} {body : List Stmt}
    {C e j G : Addr} {g : Nat} {tl : List (Nat × List Nat)} {gs : GenState}
    (hh : A.handled = none) (hroom : A.depth < recursionLimit) (hxi : env.kindOf xi = some .local) (hxc : env.kindOf xc = some .local)
    (hp : (env.scope.kind == .class || (env.scope.kind == .module && env.locals != env.globals)) = false)
    (hgs : s.gens[g]? = some gs) (hG : s.heap.IsGen G g) (hgo : gs.Goes (model prog w) A.in1 (itEnd C e j) (itProto C e j tl) tl.length (.send .none) (s.setGen g .running))
    (bare : AllBare s.gens) (F : Fr h₀ env.locals s.heap m) (N : News h₀ env.locals s.heap news) (hlim : h₀.NoLimit)
    (hGo : G ∉ [C, e, j])
    (hfr : ∀ b ∈ [G, C, e, j], h₀.get? b = none ∧ b ≠ env.locals ∧ ∀ q ∈ news, b ≠ q.1)
    (J : Nat → (Str → Option Value) → List (Addr × Obj) → Prop) (J0 : J 0 m news)
    (step : ∀ i tok t1 t2 m₁ news₁ s₁ own, tl[i]? = some tok → J i m₁ news₁ → news₁.map (·.1) = news.map (·.1) → (∀ p ∈ own, ∀ q ∈ news, p.1 ≠ q.1) →
      (∃ h tk gs, s₁ = { s with heap := h, toks := tk, gens := gs }) → AllBare s₁.gens →
      Fr h₀ env.locals s₁.heap (fun y => if y = xc then some (.str ⟨tok.2.toArray⟩ t2) else if y = xi then some (.int (tok.1 : Int) t1) else m₁ y) → News h₀ env.locals s₁.heap (own ++ news₁) →
      wpAny (model prog w) A (execs body env) (StepOut h₀ env.locals own news (J (i + 1)) R s₁) (fun _ _ => False) s₁)
    (done : ∀ h tk gs m' news', AllBare gs → Fr h₀ env.locals h m' → News h₀ env.locals h news' → news'.map (·.1) = news.map (·.1) → J tl.length m' news' → R (.ok .next) { s with heap := h, toks := tk, gens := gs }) :
    codeAny (model prog w) A (.forLoop (.Tuple [.Name xi pi, .Name xc pc] x1 pt) (.ref G) body [] env) R s := by
  have nx : ∀ {news₁ : List (Addr × Obj)}, news₁.map (·.1) = news.map (·.1) → ∀ b ∈ [G, C, e, j], ∀ q ∈ news₁, b ≠ q.1 := fun {news₁} hm b hb q hq => by
    have : q.1 ∈ news.map (·.1) := hm ▸ List.mem_map_of_mem hq
    obtain ⟨q', hq', e'⟩ := List.mem_map.mp this
    exact e' ▸ (hfr b hb).2.2 q' hq'
  refine codeAny_forLoop_any (fun k s' => ∃ i m' news' h tk gns gs, s' = { s with heap := h, toks := tk, gens := gns } ∧ k = tl.length - i ∧ i ≤ tl.length ∧ AllBare gns ∧ gns[g]? = some gs ∧ h.IsGen G g ∧
    gs.Goes (model prog w) A.in1 (itEnd C e j) (itProto C e j tl) (tl.length - i) (.send .none) ({ s with heap := h, toks := tk, gens := gns }.setGen g .running) ∧
    Fr h₀ env.locals h m' ∧ News h₀ env.locals h news' ∧ news'.map (·.1) = news.map (·.1) ∧ J i m' news') ?_ tl.length
    ⟨0, m, news, s.heap, s.toks, s.gens, gs, rfl, rfl, Nat.zero_le _, bare, hgs, hG, hgo, F, N, rfl, J0⟩
  rintro k s' ⟨i, m', news', h, tk, gns, gs', rfl, rfl, hi, hb, hgs', hG', hgo', F', N', hm', hJ⟩
  have keepF : ∀ h₁ : Heap, (∀ b o, b ≠ C → b ∉ [e, j] → h.get? b = some o → h₁.get? b = some o) → Fr h₀ env.locals h₁ m' ∧ News h₀ env.locals h₁ news' := fun h₁ hk => by
    have ap : ∀ b, b ∉ [G, C, e, j] → b ≠ C ∧ b ∉ [e, j] := fun b hb => ⟨fun q => hb (by simp [q]), fun q => hb (by simp only [List.mem_cons] at q ⊢; exact .inr (.inr q))⟩
    have apL : env.locals ∉ [G, C, e, j] := fun q => (hfr _ q).2.1 rfl
    refine ⟨⟨F'.ns.at' fun o q => hk _ o (ap _ apL).1 (ap _ apL).2 q, fun b o q => ?_, F'.above⟩, fun p hp' => ⟨?_, (N' p hp').2⟩⟩
    · have hbn : b ∉ [G, C, e, j] := fun z => by have := (hfr b z).1; rw [q] at this; cases this
      exact hk b o (ap _ hbn).1 (ap _ hbn).2 (F'.keep b o q)
    · have hbn : p.1 ∉ [G, C, e, j] := fun z => nx hm' _ z p hp' rfl
      exact hk _ _ (ap _ hbn).1 (ap _ hbn).2 (N' p hp').1
  have hGk : ∀ h₁ : Heap, (∀ b o, b ≠ C → b ∉ [e, j] → h.get? b = some o → h₁.get? b = some o) → h₁.IsGen G g := fun h₁ hk => by
    obtain ⟨o, nm, qn, ho, r⟩ := hG'
    exact ⟨o, nm, qn, hk G o (fun q => hGo (by simp [q])) (fun q => hGo (List.mem_cons_of_mem _ q)) ho, r⟩
  refine nextGen hh (hlim.keeps F'.keep) hroom hG' hgs' hgo' (fun v s₁ gs₂ hbr hv => ?_) (fun s₁ hP h' hk' => ?_)
  · obtain ⟨⟨tok, htok, T, t1, t2, rfl, hT⟩, ⟨h₁, tk₁, rfl, hk₁⟩, hkap⟩ := hv
    obtain ⟨n', hn'⟩ : ∃ n', tl.length - i = n' + 1 := by
      cases hz : tl.length - i with
      | zero =>
        rw [hz] at hkap
        exact (hkap _ fun _ _ _ q => q).elim
      | succ n' => exact ⟨n', rfl⟩
    rw [hn'] at hkap htok
    have hidx : tl.length - 1 - (n' + 1 - 1) = i := by omega
    rw [hidx] at htok
    replace hk₁ : ∀ b o, b ≠ C → b ∉ [e, j] → h.get? b = some o → h₁.get? b = some o := hk₁
    obtain ⟨F₁, N₁⟩ := keepF h₁ hk₁
    have hG₁ := hGk h₁ hk₁
    refine goGen (g := g) hG₁ ?_
    refine wpAny_assign_Tuple hh hT rfl rfl fun h₃ hx₃ => ?_
    replace hx₃ : Heap.ExtBut h₁.objs.size h₁ h₃ := hx₃
    have hx₃' : ∀ b o, h₁.get? b = some o → h₃.get? b = some o := fun b o q => hx₃ b o (Nat.ne_of_lt (Heap.lt_size q)) q
    have F₃ : Fr h₀ env.locals h₃ m' := ⟨F₁.ns.keeps hx₃', fun b o q => hx₃' b o (F₁.keep b o q), F₁.above⟩
    have N₃ : News h₀ env.locals h₃ news' := fun p hp' => ⟨hx₃' _ _ (N₁ p hp').1, (N₁ p hp').2⟩
    show wpAny _ A (do holding [Value.str ⟨tok.2.toArray⟩ t2] (assign (.Name xi pi) env (.int (tok.1 : Int) t1)); do holding [] (assign (.Name xc pc) env (Value.str ⟨tok.2.toArray⟩ t2)); pure ()) _ _ _
    refine wpAny_bind (wpAny_holding (wpAny_assign_Name (wpAny_storeName_local hxi F₃.ns (fun h₄ n₄ s₄ => ?_) hp)))
    refine wpAny_bind (wpAny_holding (wpAny_assign_Name (wpAny_storeName_local hxc n₄ (fun h₅ n₅ s₅ => wpAny_pure ?_) hp)))
    replace s₄ : Heap.SameBut env.locals h₃ h₄ := s₄
    replace s₅ : Heap.SameBut env.locals h₄ h₅ := s₅
    have F₅ := (F₃.set n₄ s₄).set n₅ s₅
    have N₅ := (N₃.set s₄).set s₅
    have up : ∀ b o, b ≠ env.locals → h₁.get? b = some o → h₅.get? b = some o := fun b o hbL q => s₅.extBut b o hbL (s₄.extBut b o hbL (hx₃' b o q))
    have hbr' : AllBare (((gns.setIfInBounds g .running).setIfInBounds g gs₂)) := fun y hy => by
      rcases Array.mem_or_eq_of_mem_setIfInBounds hy with hy | rfl
      · rcases Array.mem_or_eq_of_mem_setIfInBounds hy with hy | rfl
        · exact hb y hy
        · rfl
      · exact hbr
    refine wpAny_mono (step i tok t1 t2 m' news' _ (ownOf h₅ [G, C, e, j]) htok hJ hm' (fun p hp' q hq => (hfr _ (mem_ownOf hp').1).2.2 q hq) ⟨_, _, _, rfl⟩ hbr' F₅ (fun p hp' => ?_)) (fun f s₂ hf => ?_) fun _ _ z => z.elim
    · rcases List.mem_append.mp hp' with hp' | hp'
      · have := mem_ownOf hp'
        exact ⟨this.2, (hfr _ this.1).2.1, (hfr _ this.1).1⟩
      · exact N₅ p hp'
    · have nxt : (∃ h tk m₂ news₂, s₂ = { s with heap := h, toks := tk, gens := (gns.setIfInBounds g .running).setIfInBounds g gs₂ } ∧ Fr h₀ env.locals h m₂ ∧
          News h₀ env.locals h (ownOf h₅ [G, C, e, j] ++ news₂) ∧ news₂.map (·.1) = news.map (·.1) ∧ J (i + 1) m₂ news₂) →
          ∃ m, m < tl.length - i ∧ ∃ i m' news' h tk gns gs, s₂ = { s with heap := h, toks := tk, gens := gns } ∧ m = tl.length - i ∧ i ≤ tl.length ∧ AllBare gns ∧ gns[g]? = some gs ∧ h.IsGen G g ∧
            gs.Goes (model prog w) A.in1 (itEnd C e j) (itProto C e j tl) (tl.length - i) (.send .none) ({ s with heap := h, toks := tk, gens := gns }.setGen g .running) ∧
            Fr h₀ env.locals h m' ∧ News h₀ env.locals h news' ∧ news'.map (·.1) = news.map (·.1) ∧ J i m' news' := by
        rintro ⟨h, tk, m₂, news₂, rfl, F₂, N₂, hm₂, hJ₂⟩
        have ownK : ∀ b ∈ [G, C, e, j], ∀ o, h₅.get? b = some o → h.get? b = some o := fun b hb o q => (N₂ (b, o) (List.mem_append_left _ (ownOf_mem hb q))).1
        refine ⟨tl.length - (i + 1), by omega, i + 1, m₂, news₂, h, tk, (gns.setIfInBounds g .running).setIfInBounds g gs₂, gs₂, rfl, rfl, by omega, hbr', ?_, ?_, ?_, F₂, fun p hp' => N₂ p (List.mem_append_right _ hp'), hm₂, hJ₂⟩
        · have hlt : g < gns.size := by
            rcases Nat.lt_or_ge g gns.size with h' | h'
            · exact h'
            · rw [Array.getElem?_eq_none h'] at hgs'; cases hgs'
          simp [hlt]
        · obtain ⟨o, nm, qn, ho, r⟩ := hG₁
          exact ⟨o, nm, qn, ownK G (by simp) o (up G o ((hfr G (by simp)).2.1) ho), r⟩
        · rw [show tl.length - (i + 1) = n' by omega]
          refine hkap _ fun b hb' o q => ?_
          have hb4 : b ∈ [G, C, e, j] := List.mem_cons_of_mem _ hb'
          exact ownK b hb4 o (up b o ((hfr b hb4).2.1) q)
      cases f with
      | next => exact nxt hf
      | cont => exact nxt hf
      | brk => exact hf
      | ret v => exact hf
  · obtain ⟨hz, h₁, tk₁, rfl, hk₁⟩ := hP
    replace hk' : ∀ b o, h₁.get? b = some o → h'.get? b = some o := hk'
    replace hk₁ : ∀ b o, b ≠ C → b ∉ [e, j] → h.get? b = some o → h₁.get? b = some o := hk₁
    obtain ⟨F₁, N₁⟩ := keepF h' fun b o q1 q2 q => hk' b o (hk₁ b o q1 q2 q)
    have hil : i = tl.length := by omega
    subst hil
    refine wpAny_execs_nil ?_
    refine done h' tk₁ _ m' news' (fun y hy => ?_) F₁ N₁ hm' hJ
    rcases Array.mem_or_eq_of_mem_setIfInBounds hy with hy | rfl
    · rcases Array.mem_or_eq_of_mem_setIfInBounds hy with hy | rfl
      · exact hb y hy
      · rfl
    · rfl
end Mine

-- part G4
namespace Mine
theorem startG4 : True := by
  w_top off
  trivial
theorem fill2 (w : World) : Tag PySem.Challenge.rw_rl0016_01 (hd.heap_39 w.params = hd.heap_39 w.params) := by
  w_top off
  k_fill
  exact rfl
abbrev theProg : Program := PySem.Challenge.rw_rl0016_01.row.toRowW.prog

theorem for_iter {w : World} {loose : List Str} {mean : ExcName → Option Value} {mg mb : Str → Option Value} {A : Around} {name : Str} {scope : Scope} {a : Addr} {cd : Value} {h₀ : Heap} {L : Addr} {m : Str → Option Value} {news : List (Addr × Obj)} {s : Shared}
    {Q : Flow → Shared → Prop} {E : Value → Shared → Prop} {x : Str} {t : Tok} {v xi xc : Str} {pi pc pt fp vp cp pos : Pos} {x1 : Nat} {body : List Stmt}
    (F : Fr h₀ L s.heap m) (X : (hd.heap_39 w.params).In h₀) (N : News h₀ L s.heap news) (T : Top hd.view_39 loose mean mg mb h₀) (hh : A.handled = none) (hroom : A.depth < recursionLimit) (hb : AllBare s.gens) (hv : m v = some (.str x t))
    (hk : scope.kind = .function) (hk1 : (envOf name scope L a cd).kindOf (Str.ofString "_iter_escaped_chars") = some .globalImplicit) (hk2 : (envOf name scope L a cd).kindOf v = some .local)
    (hk3 : (envOf name scope L a cd).kindOf xi = some .local) (hk4 : (envOf name scope L a cd).kindOf xc = some .local) (hvd : (v == ("__debug__" : Str)) = false)
    (J : Nat → (Str → Option Value) → List (Addr × Obj) → Prop) (J0 : J 0 m news)
    (step : ∀ i tok t1 t2 m₁ news₁ s₁ own, (toksOf false 0 x.cps.toList)[i]? = some tok → J i m₁ news₁ → news₁.map (·.1) = news.map (·.1) → (∀ p ∈ own, ∀ q ∈ news, p.1 ≠ q.1) →
      (∃ h tk gs, s₁ = { s with heap := h, toks := tk, gens := gs }) → AllBare s₁.gens →
      Fr h₀ L s₁.heap (fun y => if y = xc then some (.str ⟨tok.2.toArray⟩ t2) else if y = xi then some (.int (tok.1 : Int) t1) else m₁ y) → News h₀ L s₁.heap (own ++ news₁) →
      wpAny (model theProg w) A (execs body (envOf name scope L a cd)) (StepOut h₀ L own news (J (i + 1)) (fun r s' => match r with | .ok f => Q f s' | .error _ => False) s₁) (fun _ _ => False) s₁)
    (done : ∀ h tk gs m' news', AllBare gs → Fr h₀ L h m' → News h₀ L h news' → news'.map (·.1) = news.map (·.1) → J (toksOf false 0 x.cps.toList).length m' news' → Q .next { s with heap := h, toks := tk, gens := gs }) :
    wpAny (model theProg w) A (exec (.For (.Tuple [.Name xi pi, .Name xc pc] x1 pt) (.Call (.Name (Str.ofString "_iter_escaped_chars") fp) [.Name v vp] [] cp) body [] pos) (envOf name scope L a cd)) Q E s := by
  have hp : ((envOf name scope L a cd).scope.kind == .class || ((envOf name scope L a cd).scope.kind == .module && (envOf name scope L a cd).locals != (envOf name scope L a cd).globals)) = false := by
    show (scope.kind == .class || (scope.kind == .module && _)) = false
    rw [hk]; rfl
  refine wpAny_For ?_ (fun _ => rfl)
  refine Call_ (name_K F X (topRead_of T) (by k_is) ?_ hk hk1)
  refine callWith_K X (by k_is) (args_cons (wpAny_Name (wpAny_loadName_local hk hk2 F.ns hv (args_nil ⟨X.keeps F.keep, ?_⟩)) hvd))
  show wpAny _ _ (call (.ref 21) [.str x t]) _ _ _
  refine iter_call F X T hroom fun gs h' tk hbare hkp hsz hG hgo => ?_
  refine wpAny_pyIter_gen hG ?_
  have hC : ∀ b ∈ [s.heap.objs.size + 1, s.heap.objs.size, s.heap.objs.size + 3, s.heap.objs.size + 2], s.heap.objs.size ≤ b := fun b hb => by
    simp only [List.mem_cons, List.not_mem_nil, or_false] at hb
    rcases hb with rfl | rfl | rfl | rfl <;> omega
  have F' : Fr h₀ L h' m := ⟨F.ns.keeps hkp, fun b o q => hkp b o (F.keep b o q), F.above⟩
  have N' : News h₀ L h' news := fun p hp' => ⟨hkp _ _ (N p hp').1, (N p hp').2⟩
  refine codeAny_mono (loop_tokens (C := s.heap.objs.size) (e := s.heap.objs.size + 3) (j := s.heap.objs.size + 2) (gs := gs) (R := fun r s' => match r with | .ok f => Q f s' | .error _ => False) hh hroom hk3 hk4 hp (Array.getElem?_push_size ..) hG (hgo A.in1 hh) (hb.push hbare) F' N' T.nolimit ?_ ?_ J J0 ?_ ?_) ?_
  · intro hm
    simp only [List.mem_cons, List.not_mem_nil, or_false] at hm
    rcases hm with q | q | q
    · exact Nat.succ_ne_self _ q
    · exact Nat.ne_of_lt (by show (s.heap.objs.size + 1 : Nat) < s.heap.objs.size + 3; omega) q
    · exact Nat.ne_of_lt (by show (s.heap.objs.size + 1 : Nat) < s.heap.objs.size + 2; omega) q
  · intro b hb
    have hge := hC b hb
    refine ⟨?_, fun q => ?_, fun p hp' q => ?_⟩
    · cases q : h₀.get? b with
      | none => rfl
      | some o => exact absurd (Heap.lt_size (F.keep b o q)) (Nat.not_lt_of_le hge)
    · have := F.ns.lt
      rw [q] at hge
      exact absurd this (Nat.not_lt_of_le hge)
    · have := Heap.lt_size (N p hp').1
      rw [← q] at this
      exact absurd this (Nat.not_lt_of_le hge)
  · intro i tok t1 t2 m₁ news₁ s₁ own h1 h2 h3 h4 h5 h6 h7 h8
    obtain ⟨h, tk', gs', rfl⟩ := h5
    exact step i tok t1 t2 m₁ news₁ _ own h1 h2 h3 h4 ⟨h, tk', gs', rfl⟩ h6 h7 h8
  · intro h tk' gs' m' news' g1 g2 g3 g4 g5
    exact done h tk' gs' m' news' g1 g2 g3 g4 g5
  · intro r s' hr
    cases r with
    | ok f => exact hr
    | error e => exact hr.elim
end Mine

-- part G5
namespace Mine
theorem startG5 : True := by
  w_top off
  trivial
theorem fill3 (w : World) : Tag PySem.Challenge.rw_rl0016_01 (hd.heap_39 w.params = hd.heap_39 w.params) := by
  w_top off
  k_fill
  exact rfl

def stripRun (x : Str) : List (Nat × List Nat) → Nat → Option Nat → List Str → Str
  | [], st, _, res => Txt.join (Str.ofString "") (if (st : Int) < x.length then res ++ [Txt.slice x (some (st : Int)) none] else res)
  | (p, ch) :: tl, st, op, res =>
    if ch = [34] then
      match op with
      | none => stripRun x tl st (some p) res
      | some o => stripRun x tl (p + 1) none (if (st : Int) = (o : Int) then res else res ++ [Txt.slice x (some (st : Int)) (some (o : Int))])
    else stripRun x tl st op res
def stripF (x : Str) : Str := if 34 ∈ x.cps.toList then stripRun x (toksOf false 0 x.cps.toList) 0 none [] else x

def fmS (x st op R : Value) (p c : Option Value) : Str → Option Value := fun y =>
  if y = Str.ofString "ch" then c else if y = Str.ofString "pos" then p else if y = Str.ofString "start" then some st else if y = Str.ofString "open_pos" then some op else if y = Str.ofString "result" then some R else if y = Str.ofString "addr" then some x else none
def opV : Option Nat → Tok → Value
  | none, _ => .none
  | some o, t => .int (o : Int) t

theorem qStr (ch : List Nat) : ((⟨ch.toArray⟩ : Str) == Str.ofString "\"") = decide (ch = [34]) := by
  rw [show Str.ofString "\"" = (⟨[34].toArray⟩ : Str) from by decide +kernel]
  rw [Bool.eq_iff_iff, beq_iff_eq, decide_eq_true_eq]
  constructor
  · intro e
    have := congrArg (fun s : Str => s.cps.toList) e
    simpa using this
  · rintro rfl; rfl

theorem fmS_pc (x st op R : Value) (p c p' c' : Option Value) : (fun y => if y = Str.ofString "ch" then c' else if y = Str.ofString "pos" then p' else fmS x st op R p c y) = fmS x st op R p' c' := by
  funext y
  unfold fmS
  by_cases h1 : y = Str.ofString "ch"
  · subst h1; rfl
  by_cases h2 : y = Str.ofString "pos"
  · subst h2; rfl
  rw [if_neg h1, if_neg h2, if_neg h1, if_neg h2, if_neg h1, if_neg h2]
theorem fmS_op (x st op R v : Value) (p c : Option Value) : (fun y => if y = Str.ofString "open_pos" then some v else fmS x st op R p c y) = fmS x st v R p c := by
  funext y
  by_cases h1 : y = Str.ofString "open_pos"
  · subst h1; rfl
  rw [if_neg h1]
  unfold fmS
  rw [if_neg h1, if_neg h1]
theorem fmS_st (x st op R v : Value) (p c : Option Value) : (fun y => if y = Str.ofString "start" then some v else fmS x st op R p c y) = fmS x v op R p c := by
  funext y
  by_cases h1 : y = Str.ofString "start"
  · subst h1; rfl
  rw [if_neg h1]
  unfold fmS
  rw [if_neg h1, if_neg h1]
theorem fmS_os (x st op R v u : Value) (p c : Option Value) : (fun y => if y = Str.ofString "open_pos" then some v else if y = Str.ofString "start" then some u else fmS x st op R p c y) = fmS x u v R p c := by
  funext y
  by_cases h1 : y = Str.ofString "open_pos"
  · subst h1; rfl
  by_cases h2 : y = Str.ofString "start"
  · subst h2; rfl
  rw [if_neg h1, if_neg h2]
  unfold fmS
  rw [if_neg h1, if_neg h2, if_neg h1, if_neg h2]
theorem dropTok {α : Type} {l : List α} {i : Nat} {a : α} (h : l[i]? = some a) : l.drop i = a :: l.drop (i + 1) := by
  obtain ⟨hi, rfl⟩ := List.getElem?_eq_some_iff.mp h
  exact List.drop_eq_getElem_cons hi
theorem newsSwap {h₀ h : Heap} {L : Addr} {q : Addr × Obj} {own news : List (Addr × Obj)} (N : News h₀ L h (own ++ q :: news)) : News h₀ L h (q :: (own ++ news)) := fun p hp => N p (by
  rcases List.mem_cons.mp hp with rfl | hp
  · simp
  · rcases List.mem_append.mp hp with hp | hp <;> simp [hp])
theorem newsBack {h₀ h : Heap} {L : Addr} {q : Addr × Obj} {own news : List (Addr × Obj)} (N : News h₀ L h (q :: (own ++ news))) : News h₀ L h (own ++ q :: news) := fun p hp => N p (by
  rcases List.mem_append.mp hp with hp | hp
  · simp [hp]
  · rcases List.mem_cons.mp hp with rfl | hp <;> simp [*])
theorem toksOf_len : ∀ (cs : List Nat) (e : Bool) (i : Nat), (toksOf e i cs).length ≤ cs.length + 1
  | [], true, _ => Nat.le_refl _
  | [], false, _ => Nat.zero_le _
  | c :: cs, true, i => by have := toksOf_len cs false (i + 1); simp only [toksOf, List.length_cons]; omega
  | c :: cs, false, i => by
    have h1 := toksOf_len cs false (i + 1)
    have h2 := toksOf_len cs true (i + 1)
    simp only [toksOf]
    split <;> simp only [List.length_cons] <;> omega
theorem strsLen : ∀ {vs : List Value} {ys : List Str}, StrsAre vs ys → vs.length = ys.length
  | _, _, .nil => rfl
  | _, _, .cons _ _ h => congrArg (· + 1) (strsLen h)
theorem strsSnoc {y : Str} {t : Tok} : ∀ {vs : List Value} {ys : List Str}, StrsAre vs ys → StrsAre (vs ++ [.str y t]) (ys ++ [y])
  | _, _, .nil => .cons _ _ .nil
  | _, _, .cons _ _ h => .cons _ _ (strsSnoc h)
theorem runQ0 {x : Str} {tok : Nat × List Nat} {tl : List (Nat × List Nat)} {st : Nat} {res : List Str} (h : tok.2 = [34]) : stripRun x (tok :: tl) st none res = stripRun x tl st (some tok.1) res := by
  obtain ⟨p, ch⟩ := tok
  simp only at h
  simp [stripRun, h]
theorem runQ1 {x : Str} {tok : Nat × List Nat} {tl : List (Nat × List Nat)} {st o : Nat} {res : List Str} (h : tok.2 = [34]) : stripRun x (tok :: tl) st (some o) res =
    stripRun x tl (tok.1 + 1) none (if (st : Int) = (o : Int) then res else res ++ [Txt.slice x (some (st : Int)) (some (o : Int))]) := by
  obtain ⟨p, ch⟩ := tok
  simp only at h
  simp [stripRun, h]
theorem runN {x : Str} {tok : Nat × List Nat} {tl : List (Nat × List Nat)} {st : Nat} {op : Option Nat} {res : List Str} (h : ¬ tok.2 = [34]) : stripRun x (tok :: tl) st op res = stripRun x tl st op res := by
  obtain ⟨p, ch⟩ := tok
  simp only at h
  simp [stripRun, h]
theorem sumLen : ∀ {l : List Str}, (∀ y ∈ l, y.length ≤ 200) → (l.map (·.length)).sum ≤ l.length * 200
  | [], _ => Nat.le_refl _
  | y :: l, h => by
    have h1 := h y (.head _)
    have h2 := sumLen fun z hz => h z (.tail _ hz)
    simp only [List.map_cons, List.sum_cons, List.length_cons]
    omega
local macro_rules | `(tactic| k_all) => `(tactic| assumption)

theorem hasQuote (x : Str) : (Builtin.Str.occurrences x (Str.ofString "\"") 0 x.length 1).isEmpty = !decide (34 ∈ x.cps.toList) := by
  have := StrLaws.found_one x 34
  rw [show Str.ofString "\"" = (⟨#[34]⟩ : Str) from by decide +kernel]
  rw [← this, Bool.not_not]

theorem strip_call {w : World} {loose : List Str} {mean : ExcName → Option Value} {mg mb : Str → Option Value} {dp un : Nat} {gd : Option (List Code)} {cn : Str} {cs : Scope} {a : Addr} {ccd : Value} {cl : List (Str × Addr)} {outer : List Env} {A₀ : Around} {base h₀ : Heap} {L : Addr} {m : Str → Option Value} {news : List (Addr × Obj)} {s : Shared} {Q E : Value → Shared → Prop} {x : Str} {t : Tok}
    (B : Below A₀ base outer h₀) (F : Fr h₀ L s.heap m) (X : (hd.heap_39 w.params).In h₀) (N : News h₀ L s.heap news) (T : Top hd.view_39 loose mean mg mb h₀) (hk : cs.kind = .function) (hb : AllBare s.gens)
    (hd : dp + 3 < recursionLimit) (hu : un + 32 < cLine) (hx : x.length ≤ 200)
    (ret : ∀ t' h' tk' gs', Fr h₀ L h' m → News h₀ L h' news → AllBare gs' → Q (.str (stripF x) t') { s with heap := h', toks := tk', gens := gs' }) :
    wpAny (model theProg w) (ktrTop dp un gd cn cs L a ccd cl outer) (call (.ref 28) [.str x t]) Q E s := by
  refine wpAny_call ?_
  refine code_def (binds := [(Str.ofString "addr", .str x t)]) B F X N T rfl rfl hk (by k_is) (by k_is) (by dsimp only [ktrTop]; omega) (BindsTo.of_eq rfl) (locs rfl) (fun g L' h₁ FG F' N' B' X' T' => ?_) rfl rfl rfl (by decide)
  k_steps
  · rename (Builtin.Str.occurrences _ _ _ _ _).isEmpty = true => hocc
    rw [hasQuote] at hocc
    have : stripF x = x := by unfold stripF; rw [if_neg (by simpa using hocc)]
    rw [this] at ret
    exact ret _ _ _ _ (by assumption) (by assumption) hb
  · rename (Builtin.Str.occurrences _ _ _ _ _).isEmpty = false => hocc
    rename Fr g L' _ _ => F2
    rename News g L' _ _ => N2
    rename ∀ p ∈ news, p.1 < _ => hlt
    rw [hasQuote] at hocc
    have hm34 : 34 ∈ x.cps.toList := by simpa using hocc
    have eS : stripF x = stripRun x (toksOf false 0 x.cps.toList) 0 none [] := by unfold stripF; rw [if_pos hm34]
    rename_i R hA hB
    have hmF : ∀ (y : Str) (tS : Tok), (if y = Str.ofString "result" then some (Value.ref R) else if y = Str.ofString "open_pos" then some Value.none else if y = Str.ofString "start" then some (Value.int 0 tS)
        else List.lookup y [(Str.ofString "addr", Value.str x t)].reverse) = fmS (.str x t) (.int 0 tS) .none (.ref R) none none y := fun y tS => by
      unfold fmS
      by_cases h1 : y = Str.ofString "result"
      · subst h1; rfl
      by_cases h2 : y = Str.ofString "open_pos"
      · subst h2; rfl
      by_cases h3 : y = Str.ofString "start"
      · subst h3; rfl
      by_cases h4 : y = Str.ofString "addr"
      · subst h4; rfl
      rw [if_neg h1, if_neg h2, if_neg h3, if_neg h1, if_neg h2, if_neg h3, if_neg h4]
      have : List.lookup y [(Str.ofString "addr", Value.str x t)].reverse = none := by
        show List.lookup y [(Str.ofString "addr", Value.str x t)] = none
        rw [List.lookup_cons, beq_false_of_ne h4]; rfl
      rw [this]
      split <;> (try split) <;> rfl
    simp only [hmF] at F2
    refine for_iter F2 X' N2 T' rfl (by simp only [depth_deeper]; omega) hb rfl rfl rfl rfl rfl rfl rfl
      (fun i m₁ news₁ => ∃ st op res vs n tS tO p c, m₁ = fmS (.str x t) (.int (st : Nat) tS) (opV op tO) (.ref R) p c ∧ news₁ = (R, W.listOf vs n) :: news ∧ StrsAre vs.toList res ∧ res.length ≤ i ∧ (∀ y ∈ res, y.length ≤ 200) ∧
        stripRun x (toksOf false 0 x.cps.toList) 0 none [] = stripRun x ((toksOf false 0 x.cps.toList).drop i) st op res) ?_ ?_ ?_
    · exact ⟨0, none, [], _, _, _, 0, none, none, rfl, rfl, .nil, Nat.le_refl _, (fun _ h => nomatch h), rfl⟩
    · rintro i tok t1 t2 _ _ s₁ own htok ⟨st, op, res, vs, n, tS, tO, p, c, rfl, rfl, hst, hlen, hsz, hrun⟩ hmap hown hs₁ hb₁ F3 N3
      obtain ⟨hX, tX, gX, rfl⟩ := hs₁
      rw [dropTok htok] at hrun
      rw [fmS_pc] at F3
      have N4 := newsSwap N3
      have hne : ∀ q ∈ own ++ news, q.1 ≠ R := fun q hq => by
        rcases List.mem_append.mp hq with hq | hq
        · exact hown q hq _ (.head _)
        · exact Nat.ne_of_lt (hlt q hq)
      clear hmap hown N3 FG F N B N2 F2 ret hmF
      have hvs : vs.size ≤ 201 := by
        have e1 := strsLen hst
        have e2 := toksOf_len x.cps.toList false 0
        have e3 := (List.getElem?_eq_some_iff.mp htok).1
        have e4 : x.cps.toList.length = x.length := by simp [Str.length]
        have e5 : vs.toList.length = vs.size := by simp
        omega
      generalize hZ : StepOut _ _ _ _ _ _ _ = Z
      cases op with
      | none =>
        dsimp only [opV] at F3
        k_steps
        · rename (_ == Str.ofString "\"") = true => hqt
          rw [qStr, decide_eq_true_eq] at hqt
          rename Fr g L' _ _ => F9
          rename News g L' _ _ => N9
          rw [fmS_op] at F9
          subst hZ
          exact ⟨_, _, _, _, rfl, F9, newsBack N9, rfl, st, some tok.1, res, vs, n, tS, t1, _, _, rfl, rfl, hst, Nat.le_succ_of_le hlen, hsz, hrun.trans (runQ0 hqt)⟩
        · rename (_ == Str.ofString "\"") = false => hqt
          rw [qStr, decide_eq_false_iff_not] at hqt
          subst hZ
          exact ⟨_, _, _, _, rfl, F3, newsBack N4, rfl, st, none, res, vs, n, tS, t1, _, _, rfl, rfl, hst, Nat.le_succ_of_le hlen, hsz, hrun.trans (runN hqt)⟩
      | some o =>
        dsimp only [opV] at F3
        k_steps
        · rename (_ == Str.ofString "\"") = true => hqt
          rw [qStr, decide_eq_true_eq] at hqt
          rename Fr g L' _ _ => F9
          rename News g L' _ _ => N9
          rename ((st : Nat) : Int) ≠ ((o : Nat) : Int) => hso
          rename (Txt.slice _ _ _).length ≤ _ => hsl
          rw [fmS_os] at F9
          have e2 := hrun.trans (runQ1 hqt)
          rw [if_neg hso] at e2
          subst hZ
          exact ⟨_, _, _, _, rfl, F9, newsBack N9, rfl, tok.1 + 1, none, _, _, _, _, t1, _, _, rfl, rfl, by rw [Array.toList_push]; exact strsSnoc hst, by rw [List.length_append]; exact Nat.succ_le_succ hlen, fun y hy => by
            rcases List.mem_append.mp hy with hy | hy
            · exact hsz y hy
            · rw [List.mem_singleton.mp hy]; exact Nat.le_trans hsl hx, e2⟩
        · rename (_ == Str.ofString "\"") = true => hqt
          rw [qStr, decide_eq_true_eq] at hqt
          rename Fr g L' _ _ => F9
          rename News g L' _ _ => N9
          rename ((st : Nat) : Int) = ((o : Nat) : Int) => hso
          rw [fmS_os] at F9
          have e2 := hrun.trans (runQ1 hqt)
          rw [if_pos hso] at e2
          subst hZ
          exact ⟨_, _, _, _, rfl, F9, newsBack N9, rfl, tok.1 + 1, none, res, vs, n, _, t1, _, _, rfl, rfl, hst, Nat.le_succ_of_le hlen, hsz, e2⟩
        · rename (_ == Str.ofString "\"") = false => hqt
          rw [qStr, decide_eq_false_iff_not] at hqt
          subst hZ
          exact ⟨_, _, _, _, rfl, F3, newsBack N4, rfl, st, some o, res, vs, n, tS, tO, _, _, rfl, rfl, hst, Nat.le_succ_of_le hlen, hsz, hrun.trans (runN hqt)⟩
    · rintro h tk' gs' _ _ hb₂ F3 N3 hmap ⟨st, op, res, vs, n, tS, tO, p, c, rfl, rfl, hst, hlen, hsz, hrun⟩
      have hne : ∀ q ∈ news, q.1 ≠ R := fun q hq => Nat.ne_of_lt (hlt q hq)
      have hvs : vs.size ≤ 201 := by
        have e1 := strsLen hst
        have e2 := toksOf_len x.cps.toList false 0
        have e4 : x.cps.toList.length = x.length := by simp [Str.length]
        have e5 : vs.toList.length = vs.size := by simp
        omega
      have hrl : res.length ≤ 201 := by
        have e1 := strsLen hst
        have e5 : vs.toList.length = vs.size := by simp
        omega
      rw [List.drop_length] at hrun
      rw [eS, hrun] at ret
      clear hmap F2 N2 hmF hrun hlen eS hb
      dsimp only
      k_steps
      · rename (st : Int) < (x.length : Int) => hlt2
        rename Fr g L' _ _ => F9
        rename News g L' _ _ => N9
        rename (Txt.slice _ _ _).length ≤ _ => hsl
        have hsz' : ∀ y ∈ res ++ [Txt.slice x (some (st : Int)) none], y.length ≤ 200 := fun y hy => by
          rcases List.mem_append.mp hy with hy | hy
          · exact hsz y hy
          · rw [List.mem_singleton.mp hy]; exact Nat.le_trans hsl hx
        have hw := sumLen hsz'
        rw [List.length_append, List.length_singleton] at hw
        refine join_listC (ys := res ++ [Txt.slice x (some (st : Int)) none]) ⟨_, (N9 _ (.head _)).1, rfl, _, rfl⟩ (by rw [Array.toList_push]; exact strsSnoc hst) (by decide +kernel) (by rw [List.length_append, List.length_singleton]; omega) (fun t' k => ?_)
        refine leaveK_ F9 N9 fun kF kN => ?_
        have e : stripRun x [] st op res = Txt.join (Str.ofString "") (res ++ [Txt.slice x (some (st : Int)) none]) := by
          show Txt.join _ (if _ then _ else _) = _
          rw [if_pos hlt2]
        rw [e] at ret
        exact ret _ _ _ _ kF (fun q hq => kN q (.tail _ hq)) hb₂
      · rename ¬ (st : Int) < (x.length : Int) => hlt2
        have hw := sumLen hsz
        refine join_listC (ys := res) ⟨_, (N3 _ (.head _)).1, rfl, _, rfl⟩ hst (by decide +kernel) (by omega) (fun t' k => ?_)
        refine leaveK_ F3 N3 fun kF kN => ?_
        have e : stripRun x [] st op res = Txt.join (Str.ofString "") res := by
          show Txt.join _ (if _ then _ else _) = _
          rw [if_neg hlt2]
        rw [e] at ret
        exact ret _ _ _ _ kF (fun q hq => kN q (.tail _ hq)) hb₂
end Mine

-- part G6
namespace Mine
theorem startG6 : True := by
  w_top off
  trivial
theorem fill4 (w : World) : Tag PySem.Challenge.rw_rl0016_01 (hd.heap_39 w.params = hd.heap_39 w.params) := by
  w_top off
  k_fill
  exact rfl

def chkRun : List (Nat × List Nat) → Int → Bool
  | [], o => decide (o = 0)
  | (_, ch) :: tl, o => if ch = [40] then chkRun tl (o + 1) else if ch = [41] then (if o - 1 < 0 then false else chkRun tl (o - 1)) else chkRun tl o
def chkF (x : Str) : Bool := chkRun (toksOf false 0 (stripF x).cps.toList) 0

def fmC (x o : Value) (p c : Option Value) : Str → Option Value := fun y =>
  if y = Str.ofString "ch" then c else if y = Str.ofString "pos" then p else if y = Str.ofString "opens" then some o else if y = Str.ofString "addr" then some x else none
theorem fmC_pc (x o : Value) (p c p' c' : Option Value) : (fun y => if y = Str.ofString "ch" then c' else if y = Str.ofString "pos" then p' else fmC x o p c y) = fmC x o p' c' := by
  funext y
  unfold fmC
  by_cases h1 : y = Str.ofString "ch"
  · subst h1; rfl
  by_cases h2 : y = Str.ofString "pos"
  · subst h2; rfl
  rw [if_neg h1, if_neg h2, if_neg h1, if_neg h2, if_neg h1, if_neg h2]
theorem fmC_o (x o v : Value) (p c : Option Value) : (fun y => if y = Str.ofString "opens" then some v else fmC x o p c y) = fmC x v p c := by
  funext y
  by_cases h1 : y = Str.ofString "opens"
  · subst h1; rfl
  rw [if_neg h1]
  unfold fmC
  rw [if_neg h1, if_neg h1]
theorem oneStr (k : Nat) (q : Str) (hq : q = ⟨[k].toArray⟩) (ch : List Nat) : ((⟨ch.toArray⟩ : Str) == q) = decide (ch = [k]) := by
  subst hq
  rw [Bool.eq_iff_iff, beq_iff_eq, decide_eq_true_eq]
  constructor
  · intro e
    have := congrArg (fun s : Str => s.cps.toList) e
    simpa using this
  · rintro rfl; rfl

theorem check_call {w : World} {loose : List Str} {mean : ExcName → Option Value} {mg mb : Str → Option Value} {dp un : Nat} {gd : Option (List Code)} {cn : Str} {cs : Scope} {a : Addr} {ccd : Value} {cl : List (Str × Addr)} {outer : List Env} {A₀ : Around} {base h₀ : Heap} {L : Addr} {m : Str → Option Value} {news : List (Addr × Obj)} {s : Shared} {Q E : Value → Shared → Prop} {x : Str} {t : Tok}
    (B : Below A₀ base outer h₀) (F : Fr h₀ L s.heap m) (X : (hd.heap_39 w.params).In h₀) (N : News h₀ L s.heap news) (T : Top hd.view_39 loose mean mg mb h₀) (hk : cs.kind = .function) (hb : AllBare s.gens)
    (hd : dp + 6 < recursionLimit) (hu : un + 64 < cLine) (hx : x.length ≤ 200)
    (ret : ∀ h' tk' gs', Fr h₀ L h' m → News h₀ L h' news → AllBare gs' → Q (.bool (chkF x)) { s with heap := h', toks := tk', gens := gs' }) :
    wpAny (model theProg w) (ktrTop dp un gd cn cs L a ccd cl outer) (call (.ref 35) [.str x t]) Q E s := by
  refine wpAny_call ?_
  refine code_def (binds := [(Str.ofString "addr", .str x t)]) B F X N T rfl rfl hk (by k_is) (by k_is) (by dsimp only [ktrTop]; omega) (BindsTo.of_eq rfl) (locs rfl) (fun g L' h₁ FG F' N' B' X' T' => ?_) rfl rfl rfl (by decide)
  refine wpAny_execs_cons (wpAny_Assign_Name (Call_ (name_K F' X' (topRead_of T') (by k_is) ?_)))
  refine callWith_K X' (by k_is) (args_cons (ld F' rfl (args_nil ⟨X'.keeps F'.keep, ?_⟩)))
  refine strip_call (cl := []) B' F' X' N' T' rfl hb (by dsimp only [ktrTop, Around.deeper]; omega) (by dsimp only [ktrTop, Around.deeper]; omega) hx fun t2 h2 tk2 gs2 F2 N2 hb2 => ?_
  refine stN F2 N2 fun h3 F3 N3 => ?_
  refine wpAny_execs_cons (wpAny_Assign_Name (wpAny_Constant_int (stN F3 N3 fun h4 F4 N4 => ?_)))
  dsimp only at F4 ⊢
  have hmF : ∀ (o : Value), (fun y => if y = Str.ofString "opens" then some o else if y = Str.ofString "addr" then some (Value.str (stripF x) t2) else List.lookup y [(Str.ofString "addr", Value.str x t)].reverse) = fmC (.str (stripF x) t2) o none none := fun o => by
    funext y
    unfold fmC
    by_cases h1 : y = Str.ofString "opens"
    · subst h1; rfl
    by_cases h2 : y = Str.ofString "addr"
    · subst h2; rfl
    rw [if_neg h1, if_neg h2, if_neg h1, if_neg h2]
    have : List.lookup y [(Str.ofString "addr", Value.str x t)].reverse = none := by
      show List.lookup y [(Str.ofString "addr", Value.str x t)] = none
      rw [List.lookup_cons, beq_false_of_ne h2]; rfl
    rw [this]
    split <;> (try split) <;> rfl
  rw [hmF] at F4
  refine wpAny_execs_cons (for_iter F4 X' N4 T' rfl ?_ hb2 rfl rfl rfl rfl rfl rfl rfl
    (fun i m₁ news₁ => ∃ (o : Int) (tO : Tok) (p c : Option Value), m₁ = fmC (.str (stripF x) t2) (.int o tO) p c ∧ news₁ = news ∧ chkRun (toksOf false 0 (stripF x).cps.toList) 0 = chkRun ((toksOf false 0 (stripF x).cps.toList).drop i) o) ?_ ?_ ?_)
  · show dp + 1 < recursionLimit; omega
  · exact ⟨0, _, none, none, rfl, rfl, rfl⟩
  · rintro i tok t1 t3 _ _ s₁ own htok ⟨o, tO, p, c, rfl, rfl, hrun⟩ hmap hown hs₁ hb₁ F5 N5
    obtain ⟨hX, tX, gX, rfl⟩ := hs₁
    rw [dropTok htok] at hrun
    rw [fmC_pc] at F5
    obtain ⟨pp, ch⟩ := tok
    dsimp only at F5
    replace hrun : chkF x = if ch = [40] then chkRun ((toksOf false 0 (stripF x).cps.toList).drop (i + 1)) (o + 1) else if ch = [41] then (if o - 1 < 0 then false else chkRun ((toksOf false 0 (stripF x).cps.toList).drop (i + 1)) (o - 1)) else chkRun ((toksOf false 0 (stripF x).cps.toList).drop (i + 1)) o := hrun
    clear hmap hown FG F N B F2 N2 F3 N3 F4 N4 hmF hb hb2
    generalize hZ : StepOut _ _ _ _ _ _ _ = Z
    have hO : Str.ofString "(" = (⟨[40].toArray⟩ : Str) := by decide +kernel
    have hC : Str.ofString ")" = (⟨[41].toArray⟩ : Str) := by decide +kernel
    k_steps
    · rename (_ == Str.ofString "(") = true => h1
      rw [oneStr 40 _ hO, decide_eq_true_eq] at h1
      rename Fr g L' _ _ => F9
      rename News g L' _ _ => N9
      rw [fmC_o] at F9
      rw [if_pos h1] at hrun
      subst hZ
      exact ⟨_, _, _, _, rfl, F9, N9, rfl, _, _, _, _, rfl, rfl, hrun⟩
    · rename (_ == Str.ofString "(") = false => h1
      rename (_ == Str.ofString ")") = true => h2
      rw [oneStr 40 _ hO, decide_eq_false_iff_not] at h1
      rw [oneStr 41 _ hC, decide_eq_true_eq] at h2
      rename Fr g L' _ _ => F9
      rename News g L' _ _ => N9
      rename o - 1 < 0 => h3
      rw [if_neg h1, if_pos h2, if_pos h3] at hrun
      rw [hrun] at ret
      subst hZ
      show LeaveK h₀ L m g _ (.bool false) _
      refine leaveK_ F9 N9 fun kF kN => ?_
      exact ret _ _ _ kF (fun q hq => kN q (List.mem_append_right _ hq)) hb₁
    · rename (_ == Str.ofString "(") = false => h1
      rename (_ == Str.ofString ")") = true => h2
      rw [oneStr 40 _ hO, decide_eq_false_iff_not] at h1
      rw [oneStr 41 _ hC, decide_eq_true_eq] at h2
      rename Fr g L' _ _ => F9
      rename News g L' _ _ => N9
      rename ¬ (o - 1 < 0) => h3
      rw [if_neg h1, if_pos h2, if_neg h3] at hrun
      rw [fmC_o] at F9
      subst hZ
      exact ⟨_, _, _, _, rfl, F9, N9, rfl, _, _, _, _, rfl, rfl, hrun⟩
    · rename (_ == Str.ofString "(") = false => h1
      rename (_ == Str.ofString ")") = false => h2
      rw [oneStr 40 _ hO, decide_eq_false_iff_not] at h1
      rw [oneStr 41 _ hC, decide_eq_false_iff_not] at h2
      rw [if_neg h1, if_neg h2] at hrun
      subst hZ
      exact ⟨_, _, _, _, rfl, F5, N5, rfl, _, _, _, _, rfl, rfl, hrun⟩
  · rintro h tk' gs' _ _ hb₂ F5 N5 hmap ⟨o, tO, p, c, rfl, rfl, hrun⟩
    rw [List.drop_length] at hrun
    replace hrun : chkF x = decide (o = 0) := hrun
    rw [hrun] at ret
    clear hmap F2 N2 F3 N3 F4 N4 hmF hrun hb hb2
    dsimp only
    k_steps
    rename Fr h₀ L _ _ => F9
    rename News h₀ L _ _ => N9
    have e : (o == 0) = decide (o = 0) := by rw [Bool.eq_iff_iff, beq_iff_eq, decide_eq_true_eq]
    rw [e]
    exact ret _ _ _ F9 N9 hb₂
end Mine

-- part L1
namespace Mine
theorem startL1 : True := by
  w_top off
  trivial
theorem fill5 (w : World) : Tag PySem.Challenge.rw_rl0016_01 (hd.heap_39 w.params = hd.heap_39 w.params) := by
  w_top off
  k_fill
  exact rfl
def leastF (W : Int) : Int := ((Builtin.Int.intBits W : Int) - 1) + (if (Builtin.bitAnd W (W - 1) == 0) = true then 0 else 1)

theorem single_call {w : World} {loose : List Str} {mean : ExcName → Option Value} {mg mb : Str → Option Value} {dp un : Nat} {gd : Option (List Code)} {cn : Str} {cs : Scope} {a : Addr} {ccd : Value} {cl : List (Str × Addr)} {outer : List Env} {A₀ : Around} {base h₀ : Heap} {L : Addr} {m : Str → Option Value} {news : List (Addr × Obj)} {s : Shared} {Q E : Value → Shared → Prop} {W : Int} {t : Tok}
    (B : Below A₀ base outer h₀) (F : Fr h₀ L s.heap m) (X : (hd.heap_39 w.params).In h₀) (N : News h₀ L s.heap news) (T : Top hd.view_39 loose mean mg mb h₀) (hk : cs.kind = .function)
    (hd : dp + 6 < recursionLimit) (hu : un + 64 < cLine) (hW : 0 < W)
    (ret : ∀ h' tk', Fr h₀ L h' m → News h₀ L h' news → Q (.bool (Builtin.bitAnd W (W - 1) == 0)) { s with heap := h', toks := tk' }) :
    wpAny (model theProg w) (ktrTop dp un gd cn cs L a ccd cl outer) (call (.ref 42) [.int W t]) Q E s := by
  refine wpAny_call ?_
  refine code_def (binds := [(Str.ofString "num", .int W t)]) B F X N T rfl rfl hk (by k_is) (by k_is) (by dsimp only [ktrTop]; omega) (BindsTo.of_eq rfl) (locs rfl) (fun g L' h₁ FG F' N' B' X' T' => ?_) rfl rfl rfl (by decide)
  k_steps
  · rename W = 0 => h0
    omega
  · rename Fr h₀ L _ _ => F9
    rename News h₀ L _ _ => N9
    exact ret _ _ F9 N9

theorem high_call {w : World} {loose : List Str} {mean : ExcName → Option Value} {mg mb : Str → Option Value} {dp un : Nat} {gd : Option (List Code)} {cn : Str} {cs : Scope} {a : Addr} {ccd : Value} {cl : List (Str × Addr)} {outer : List Env} {A₀ : Around} {base h₀ : Heap} {L : Addr} {m : Str → Option Value} {news : List (Addr × Obj)} {s : Shared} {Q E : Value → Shared → Prop} {W : Int} {t : Tok}
    (B : Below A₀ base outer h₀) (F : Fr h₀ L s.heap m) (X : (hd.heap_39 w.params).In h₀) (N : News h₀ L s.heap news) (T : Top hd.view_39 loose mean mg mb h₀) (hk : cs.kind = .function)
    (hd : dp + 6 < recursionLimit) (hu : un + 64 < cLine) 
    (ret : ∀ t' h' tk', Fr h₀ L h' m → News h₀ L h' news → Q (.int ((Builtin.Int.intBits W : Int) - 1) t') { s with heap := h', toks := tk' }) :
    wpAny (model theProg w) (ktrTop dp un gd cn cs L a ccd cl outer) (call (.ref 49) [.int W t]) Q E s := by
  refine wpAny_call ?_
  refine code_def (binds := [(Str.ofString "value", .int W t)]) B F X N T rfl rfl hk (by k_is) (by k_is) (by dsimp only [ktrTop]; omega) (BindsTo.of_eq rfl) (locs rfl) (fun g L' h₁ FG F' N' B' X' T' => ?_) rfl rfl rfl (by decide)
  k_steps
  rename Fr h₀ L _ _ => F9
  rename News h₀ L _ _ => N9
  exact ret _ _ _ F9 N9

theorem least_call {w : World} {loose : List Str} {mean : ExcName → Option Value} {mg mb : Str → Option Value} {dp un : Nat} {gd : Option (List Code)} {cn : Str} {cs : Scope} {a : Addr} {ccd : Value} {cl : List (Str × Addr)} {outer : List Env} {A₀ : Around} {base h₀ : Heap} {L : Addr} {m : Str → Option Value} {news : List (Addr × Obj)} {s : Shared} {Q E : Value → Shared → Prop} {W : Int} {t : Tok}
    (B : Below A₀ base outer h₀) (F : Fr h₀ L s.heap m) (X : (hd.heap_39 w.params).In h₀) (N : News h₀ L s.heap news) (T : Top hd.view_39 loose mean mg mb h₀) (hk : cs.kind = .function)
    (hd : dp + 12 < recursionLimit) (hu : un + 128 < cLine) (hW : 0 < W)
    (ret : ∀ t' h' tk', Fr h₀ L h' m → News h₀ L h' news → Q (.int (leastF W) t') { s with heap := h', toks := tk' }) :
    wpAny (model theProg w) (ktrTop dp un gd cn cs L a ccd cl outer) (call (.ref 75) [.int W t]) Q E s := by
  refine wpAny_call ?_
  refine code_def (binds := [(Str.ofString "weight", .int W t)]) B F X N T rfl rfl hk (by k_is) (by k_is) (by dsimp only [ktrTop]; omega) (BindsTo.of_eq rfl) (locs rfl) (fun g L' h₁ FG F' N' B' X' T' => ?_) rfl rfl rfl (by decide)
  refine wpAny_execs_cons (wpAny_Assign_Name (Call_ (name_K F' X' (topRead_of T') (by k_is) ?_)))
  refine callWith_K X' (by k_is) (args_cons (ld F' rfl (args_nil ⟨X'.keeps F'.keep, ?_⟩)))
  refine single_call (cl := []) B' F' X' N' T' rfl (by dsimp only [ktrTop, Around.deeper]; omega) (by dsimp only [ktrTop, Around.deeper]; omega) hW fun h2 tk2 F2 N2 => ?_
  refine stN F2 N2 fun h3 F3 N3 => ?_
  refine wpAny_execs_cons (wpAny_Return_some (wpAny_BinOp (Call_ (name_K F3 X' (topRead_of T') (by k_is) ?_))))
  refine callWith_K X' (by k_is) (args_cons (ld F3 rfl (args_nil ⟨X'.keeps F3.keep, ?_⟩)))
  refine high_call (cl := []) B' F3 X' N3 T' rfl (by dsimp only [ktrTop, Around.deeper]; omega) (by dsimp only [ktrTop, Around.deeper]; omega) fun t4 h4 tk4 F4 N4 => ?_
  have eL : leastF W = ((Builtin.Int.intBits W : Int) - 1) + (if (Builtin.bitAnd W (W - 1) == 0) = true then 0 else 1) := rfl
  generalize leastF W = lf at eL ret
  generalize (Builtin.bitAnd W (W - 1) == 0) = b at F4 eL
  clear F2 N2 F3 N3
  cases b with
  | true =>
    rw [if_pos rfl] at eL
    k_steps
    rename Fr h₀ L _ _ => F9
    rename News h₀ L _ _ => N9
    rw [← eL]
    exact ret _ _ _ F9 N9
  | false =>
    rw [if_neg Bool.false_ne_true] at eL
    k_steps
    rename Fr h₀ L _ _ => F9
    rename News h₀ L _ _ => N9
    rw [← eL]
    exact ret _ _ _ F9 N9
end Mine

-- part L2
namespace Mine
theorem startL2 : True := by
  w_top off
  trivial
theorem fill6 (w : World) : Tag PySem.Challenge.rw_rl0016_01 (hd.heap_39 w.params = hd.heap_39 w.params) := by
  w_top off
  k_fill
  exact rfl
abbrev nestObj (d : Int) (x : Str) (t u : Tok) : Obj := { cls := .type "tuple", data := .seq #[.int d t, .str x u] }
def jd (d1 d2 : Int) : Int := (if d2 > d1 then d2 else d1) + 1
def jx (x1 x2 : Str) : Str := Str.ofString ")" ++ x1 ++ x2 ++ Str.ofString "("

theorem joined_call {w : World} {loose : List Str} {mean : ExcName → Option Value} {mg mb : Str → Option Value} {dp un : Nat} {gd : Option (List Code)} {cn : Str} {cs : Scope} {a : Addr} {ccd : Value} {cl : List (Str × Addr)} {outer : List Env} {A₀ : Around} {base h₀ : Heap} {L : Addr} {m : Str → Option Value} {news : List (Addr × Obj)} {s : Shared} {Q E : Value → Shared → Prop} {a1 a2 : Addr} {d1 d2 : Int} {x1 x2 : Str} {t1 u1 t2 u2 : Tok}
    (B : Below A₀ base outer h₀) (F : Fr h₀ L s.heap m) (X : (hd.heap_39 w.params).In h₀) (N : News h₀ L s.heap news) (T : Top hd.view_39 loose mean mg mb h₀) (hk : cs.kind = .function)
    (hd : dp + 6 < recursionLimit) (hu : un + 64 < cLine) (m1 : (a1, nestObj d1 x1 t1 u1) ∈ news) (m2 : (a2, nestObj d2 x2 t2 u2) ∈ news) (hx1 : x1.length ≤ 100) (hx2 : x2.length ≤ 100)
    (ret : ∀ D t u h' tk', Fr h₀ L h' m → News h₀ L h' ((D, nestObj (jd d1 d2) (jx x1 x2) t u) :: news) → (∀ p ∈ news, p.1 < D) → Q (.ref D) { s with heap := h', toks := tk' }) :
    wpAny (model theProg w) (ktrTop dp un gd cn cs L a ccd cl outer) (call (.ref 56) [.ref a1, .ref a2]) Q E s := by
  refine wpAny_call ?_
  refine code_def (binds := [(Str.ofString "one", .ref a1), (Str.ofString "other", .ref a2)]) B F X N T rfl rfl hk (by k_is) (by k_is) (by dsimp only [ktrTop]; omega) (BindsTo.of_eq rfl) (locs rfl) (fun g L' h₁ FG F' N' B' X' T' => ?_) rfl rfl rfl (by decide)
  k_steps
  rename Fr h₀ L _ _ => F9
  rename News h₀ L _ _ => N9
  rename ∀ p ∈ news, p.1 < _ => hlt
  exact ret _ _ _ _ _ F9 N9 hlt
end Mine

-- part G7
namespace Mine
theorem startG7 : True := by
  w_top off
  trivial

abbrev WalkOut (h₀ : Heap) (L I : Addr) (it : Obj) (J : (Str → Option Value) → List (Addr × Obj) → Prop) (R : Result → Shared → Prop) (s : Shared) : Flow → Shared → Prop := fun f s₃ => match f with
  | .next | .cont => ∃ h tk gs m₂ news₂, s₃ = { s with heap := h, toks := tk, gens := gs } ∧ AllBare gs ∧ Fr h₀ L h m₂ ∧ News h₀ L h ((I, it) :: news₂) ∧ (∀ p ∈ news₂, p.1 ≠ I) ∧ J m₂ news₂
  | .brk => R (.ok .next) s₃
  | .ret v => R (.ok (.ret v)) s₃

theorem loop_walk {prog : Program} {w : World} {A : Around} {R : Result → Shared → Prop} {s : Shared} {env : Env} {h₀ : Heap} {m : Str → Option Value} {news keepL : List (Addr × Obj)} {target : PySem.Expr} {body : List Stmt}
    {I : Addr} {fp : List Addr} {n : Nat} {P : Nat → Value → Prop} {St : Nat → Heap → Prop}
    (W : Walks prog w A I fp [I] n P St) (hIf : I ∈ fp)
    (hgo : ∀ (i : Nat) (v : Value) (s : Shared) (Q : Unit → Shared → Prop) (E : Value → Shared → Prop), St i s.heap → Q () s → wpAny (model prog w) A (letOwnedTupleGo target (.ref I) v) Q E s)
    (hex : ∀ i h, St i h → ∃ o, h.get? I = some o)
    (hst : St 0 s.heap) (bare : AllBare s.gens) (F : Fr h₀ env.locals s.heap m) (N : News h₀ env.locals s.heap news) (hI : h₀.get? I = none ∧ I ≠ env.locals ∧ ∀ q ∈ news, q.1 ≠ I)
    (J : Nat → (Str → Option Value) → List (Addr × Obj) → Prop) (J0 : J 0 m news)
    (hkeep : ∀ i m₁ news₁, J i m₁ news₁ → ∀ q ∈ keepL, q ∈ news₁) (hfp : ∀ b ∈ fp, b = I ∨ ∃ o, (b, o) ∈ keepL)
    (step : ∀ i v m₁ news₁ s₁ it, i < n → P i v → J i m₁ news₁ → (∀ p ∈ news₁, p.1 ≠ I) → (∃ h tk gs, s₁ = { s with heap := h, toks := tk, gens := gs }) → AllBare s₁.gens →
      Fr h₀ env.locals s₁.heap m₁ → News h₀ env.locals s₁.heap ((I, it) :: news₁) → St (i + 1) s₁.heap →
      wpAny (model prog w) A (assign target env v) (fun _ s₂ => wpAny (model prog w) A (execs body env) (WalkOut h₀ env.locals I it (J (i + 1)) R s) (fun _ _ => False) s₂) (fun _ _ => False) s₁)
    (done : ∀ h tk gs m' news', AllBare gs → Fr h₀ env.locals h m' → News h₀ env.locals h news' → J n m' news' → R (.ok .next) { s with heap := h, toks := tk, gens := gs }) :
    codeAny (model prog w) A (.forLoop target (.ref I) body [] env) R s := by
  refine codeAny_forLoop_any (fun k s' => ∃ i m' news' h tk gs, s' = { s with heap := h, toks := tk, gens := gs } ∧ k = n - i ∧ i ≤ n ∧ AllBare gs ∧ St i h ∧ Fr h₀ env.locals h m' ∧ News h₀ env.locals h news' ∧ (∀ p ∈ news', p.1 ≠ I) ∧ J i m' news') ?_ n
    ⟨0, m, news, s.heap, s.toks, s.gens, rfl, rfl, Nat.zero_le _, bare, hst, F, N, hI.2.2, J0⟩
  rintro k s' ⟨i, m', news', h, tk, gs, rfl, rfl, hi, hb, hst', F', N', hoff, hJ⟩
  have keepF : ∀ h₁ : Heap, (∀ b o, b ∉ [I] → h.get? b = some o → h₁.get? b = some o) → Fr h₀ env.locals h₁ m' ∧ News h₀ env.locals h₁ news' := fun h₁ hk => by
    refine ⟨⟨F'.ns.at' fun o q => hk _ o (fun z => hI.2.1 (List.mem_singleton.mp z).symm) q, fun b o q => hk b o (fun z => ?_) (F'.keep b o q), F'.above⟩, fun p hp' => ⟨hk _ _ (fun z => hoff p hp' (List.mem_singleton.mp z)) (N' p hp').1, (N' p hp').2⟩⟩
    rw [List.mem_singleton.mp z, hI.1] at q; cases q
  by_cases hlt : i < n
  · refine W.item i _ _ _ hlt hst' fun v h₁ tk₁ hPv hst₁ hk₁ => ?_
    obtain ⟨F₁, N₁⟩ := keepF h₁ hk₁
    obtain ⟨o, ho⟩ := hex _ _ hst₁
    refine hgo (i + 1) v _ _ _ hst₁ ?_
    refine wpAny_mono (step i v m' news' _ o hlt hPv hJ hoff ⟨_, _, _, rfl⟩ hb F₁ (fun p hp => ?_) hst₁) (fun _ s₂ h₂ => wpAny_mono h₂ (fun f s₃ hf => ?_) fun _ _ z => z.elim) fun _ _ z => z.elim
    · rcases List.mem_cons.mp hp with rfl | hp
      · exact ⟨ho, hI.2.1, hI.1⟩
      · exact N₁ p hp
    · have nxt : (∃ h tk gs m₂ news₂, s₃ = { s with heap := h, toks := tk, gens := gs } ∧ AllBare gs ∧ Fr h₀ env.locals h m₂ ∧ News h₀ env.locals h ((I, o) :: news₂) ∧ (∀ p ∈ news₂, p.1 ≠ I) ∧ J (i + 1) m₂ news₂) →
          ∃ m, m < n - i ∧ ∃ i m' news' h tk gs, s₃ = { s with heap := h, toks := tk, gens := gs } ∧ m = n - i ∧ i ≤ n ∧ AllBare gs ∧ St i h ∧ Fr h₀ env.locals h m' ∧ News h₀ env.locals h news' ∧ (∀ p ∈ news', p.1 ≠ I) ∧ J i m' news' := by
        rintro ⟨h₃, tk₃, gs₃, m₂, news₂, rfl, hb₃, F₃, N₃, hoff₃, hJ₃⟩
        refine ⟨n - (i + 1), by omega, i + 1, m₂, news₂, h₃, tk₃, gs₃, rfl, rfl, hlt, hb₃, W.frame _ _ _ hst₁ fun b hb o' q => ?_, F₃, fun p hp => N₃ p (.tail _ hp), hoff₃, hJ₃⟩
        rcases hfp b hb with rfl | ⟨ob, hob⟩
        · rw [ho] at q
          cases q
          exact (N₃ _ (.head _)).1
        · have e1 := (N₁ _ (hkeep _ _ _ hJ _ hob)).1
          have e2 := (N₃ _ (.tail _ (hkeep _ _ _ hJ₃ _ hob))).1
          rw [e1] at q
          cases q
          exact e2
      cases f with
      | next => exact nxt hf
      | cont => exact nxt hf
      | brk => exact hf
      | ret v => exact hf
  · have hin : i = n := by omega
    subst hin
    refine W.done _ _ _ hst' fun h₁ tk₁ hk₁ => ?_
    obtain ⟨F₁, N₁⟩ := keepF h₁ hk₁
    exact wpAny_execs_nil (done h₁ tk₁ gs m' news' hb F₁ N₁ hJ)

theorem range4 {n : Nat} (h : n ≤ 4) : Builtin.Range.small 0 (n : Int) 1 = true ∧ Builtin.Range.rangeSize 0 (n : Int) 1 = (n : Int) := by
  have : n = 0 ∨ n = 1 ∨ n = 2 ∨ n = 3 ∨ n = 4 := by omega
  rcases this with rfl | rfl | rfl | rfl | rfl <;> decide

theorem range_for {prog : Program} {w : World} {A : Around} {R : Result → Shared → Prop} {E : Value → Shared → Prop} {s : Shared} {env : Env} {h₀ : Heap} {m : Str → Option Value} {news : List (Addr × Obj)} {x : Str} {px : Pos} {body : List Stmt}
    {r : Addr} {n : Nat} {t u v : Tok} (hn : n ≤ 4) (hh : A.handled = none) (hr : IsRange s.heap r 0 (n : Int) 1 t u v)
    (bare : AllBare s.gens) (F : Fr h₀ env.locals s.heap m) (N : News h₀ env.locals s.heap news)
    (J : Nat → (Str → Option Value) → List (Addr × Obj) → Prop) (J0 : J 0 m news)
    (step : ∀ I : Addr, (∀ p ∈ news, p.1 < I) → ∀ i t m₁ news₁ s₁ it, i < n → J i m₁ news₁ → (∀ p ∈ news₁, p.1 ≠ I) → (∃ h tk gs, s₁ = { s with heap := h, toks := tk, gens := gs }) → AllBare s₁.gens →
      Fr h₀ env.locals s₁.heap m₁ → News h₀ env.locals s₁.heap ((I, it) :: news₁) → it.cls = .type "range_iterator" →
      wpAny (model prog w) A (assign (.Name x px) env (.int (i : Int) t)) (fun _ s₂ => wpAny (model prog w) A (execs body env) (WalkOut h₀ env.locals I it (J (i + 1)) R s) (fun _ _ => False) s₂) (fun _ _ => False) s₁)
    (done : ∀ h tk gs m' news', AllBare gs → Fr h₀ env.locals h m' → News h₀ env.locals h news' → J n m' news' → R (.ok .next) { s with heap := h, toks := tk, gens := gs }) :
    wpAny (model prog w) A (pyIter (.ref r)) (fun it s₂ => codeAny (model prog w) A (.forLoop (.Name x px) it body [] env) R s₂) E s := by
  obtain ⟨hsm, hsz⟩ := range4 hn
  refine wpAny_pyIter_range hr hsm ?_
  rw [hsz]
  have hlt : ∀ p ∈ news, p.1 < s.heap.objs.size := fun p hp => Heap.lt_size (N p hp).1
  have hnew : h₀.get? s.heap.objs.size = none := by
    cases q : h₀.get? s.heap.objs.size with
    | none => rfl
    | some o => exact absurd (Heap.lt_size (F.keep _ _ q)) (Nat.lt_irrefl _)
  have F' : Fr h₀ env.locals (s.heap.push { cls := .type "range_iterator", data := .fields #[rawInt 0, rawInt (n : Int), rawInt 1] }) m := F.push _
  refine loop_walk (keepL := []) (Walks.range hh s.heap.objs.size 0 1 n) (by simp) (fun _ _ _ _ _ _ h => wpAny_pure h) (fun _ _ h => ⟨_, h⟩) ?_ bare F' (fun p hp => ⟨Heap.get?_push_of_some _ (N p hp).1, (N p hp).2⟩)
    ⟨hnew, fun q => Nat.lt_irrefl _ (q ▸ F.ns.lt), fun q hq => Nat.ne_of_lt (hlt q hq)⟩ J J0 (fun _ _ _ _ _ h => nomatch h) (fun b hb => .inl (by simpa using hb)) ?_ ?_
  · show IsRangeIter _ _ _ _ _
    simpa using Heap.get?_push_size _ rfl
  · rintro i v m₁ news₁ s₁ it hi ⟨t', rfl⟩ hJ hoff hs₁ hb F₁ N₁ hSt
    have hcls : it.cls = .type "range_iterator" := by
      have e1 := (N₁ _ (.head _)).1
      have e2 : s₁.heap.get? s.heap.objs.size = some _ := hSt
      rw [e2] at e1
      cases e1
      rfl
    obtain ⟨h, tk, gs, rfl⟩ := hs₁
    have e : (0 : Int) + (i : Int) * 1 = (i : Int) := by omega
    rw [e]
    exact step _ hlt i t' m₁ news₁ _ it hi hJ hoff ⟨h, tk, gs, rfl⟩ hb F₁ N₁ hcls
  · intro h tk gs m' news' hb F₁ N₁ hJ
    exact done h tk gs m' news' hb F₁ N₁ hJ
end Mine

-- part G8
namespace Mine
theorem startG8 : True := by
  w_top off
  trivial
theorem go_name {prog : Program} {w : World} {A : Around} {x : Str} {px : PySem.Pos} {it v : Value} {s : Shared} {Q : Unit → Shared → Prop} {E : Value → Shared → Prop} (h : Q () s) :
    wpAny (model prog w) A (letOwnedTupleGo (.Name x px) it v) Q E s := wpAny_pure h
theorem go_tuple {prog : Program} {w : World} {A : Around} {elts : List PySem.Expr} {x1 : Nat} {px : PySem.Pos} {I l : Addr} {i : Nat} {v : Value} {s : Shared} {Q : Unit → Shared → Prop} {E : Value → Shared → Prop} (hit : s.heap.IsListIter I l i) (h : Q () s) :
    wpAny (model prog w) A (letOwnedTupleGo (.Tuple elts x1 px) (.ref I) v) Q E s := by
  cases v with
  | ref T => exact wpAny_letOwnedTupleGo_listiter hit h
  | _ => exact wpAny_pure h

theorem list_for {prog : Program} {w : World} {A : Around} {R : Result → Shared → Prop} {E : Value → Shared → Prop} {s : Shared} {env : Env} {h₀ : Heap} {m : Str → Option Value} {news : List (Addr × Obj)} {target : PySem.Expr} {body : List Stmt}
    {D : Addr} {its : Array Value} {kl : Nat} (hh : A.handled = none) (hD : (D, W.listOf its kl) ∈ news) (ht : (∃ x p, target = .Name x p) ∨ (∃ elts x1 p, target = .Tuple elts x1 p))
    (bare : AllBare s.gens) (F : Fr h₀ env.locals s.heap m) (N : News h₀ env.locals s.heap news)
    (J : Nat → (Str → Option Value) → List (Addr × Obj) → Prop) (J0 : J 0 m news) (hkeep : ∀ i m₁ news₁, J i m₁ news₁ → (D, W.listOf its kl) ∈ news₁)
    (step : ∀ I : Addr, (∀ p ∈ news, p.1 < I) → ∀ i v m₁ news₁ s₁ it, its[i]? = some v → J i m₁ news₁ → (∀ p ∈ news₁, p.1 ≠ I) → (∃ h tk gs, s₁ = { s with heap := h, toks := tk, gens := gs }) → AllBare s₁.gens →
      Fr h₀ env.locals s₁.heap m₁ → News h₀ env.locals s₁.heap ((I, it) :: news₁) →
      wpAny (model prog w) A (assign target env v) (fun _ s₂ => wpAny (model prog w) A (execs body env) (WalkOut h₀ env.locals I it (J (i + 1)) R s) (fun _ _ => False) s₂) (fun _ _ => False) s₁)
    (done : ∀ h tk gs m' news', AllBare gs → Fr h₀ env.locals h m' → News h₀ env.locals h news' → J its.size m' news' → R (.ok .next) { s with heap := h, toks := tk, gens := gs }) :
    wpAny (model prog w) A (pyIter (.ref D)) (fun it s₂ => codeAny (model prog w) A (.forLoop target it body [] env) R s₂) E s := by
  have hl : s.heap.IsList D its := ⟨_, (N _ hD).1, rfl, _, rfl⟩
  refine wpAny_pyIter_list hl ?_
  have hlt : ∀ p ∈ news, p.1 < s.heap.objs.size := fun p hp => Heap.lt_size (N p hp).1
  have hnew : h₀.get? s.heap.objs.size = none := by
    cases q : h₀.get? s.heap.objs.size with
    | none => rfl
    | some o => exact absurd (Heap.lt_size (F.keep _ _ q)) (Nat.lt_irrefl _)
  have F' : Fr h₀ env.locals (s.heap.push { cls := .type "list_iterator", data := .fields #[.ref D, .int 0 0] }) m := F.push _
  refine loop_walk (keepL := [(D, W.listOf its kl)]) (Walks.list hh s.heap.objs.size D (Nat.ne_of_lt (hlt _ hD)) its) (by simp) ?_ (fun _ _ h => ?_) ?_ bare F' (fun p hp => ⟨Heap.get?_push_of_some _ (N p hp).1, (N p hp).2⟩)
    ⟨hnew, fun q => Nat.lt_irrefl _ (q ▸ F.ns.lt), fun q hq => Nat.ne_of_lt (hlt q hq)⟩ J J0 (fun i m₁ news₁ hJ q hq => by rw [List.mem_singleton.mp hq]; exact hkeep i m₁ news₁ hJ) (fun b hb => ?_) ?_ ?_
  · intro i v s' Q' E' hst hq
    rcases ht with ⟨x, p, rfl⟩ | ⟨elts, x1, p, rfl⟩
    · exact go_name hq
    · exact go_tuple hst.1 hq
  · obtain ⟨o, ho, _⟩ := h.1
    exact ⟨o, ho⟩
  · exact ⟨⟨_, Heap.get?_push_size _ rfl, rfl, rfl⟩, hl.push _⟩
  · simp only [List.mem_cons, List.not_mem_nil, or_false] at hb
    rcases hb with rfl | rfl
    · exact .inl rfl
    · exact .inr ⟨_, .head _⟩
  · rintro i v m₁ news₁ s₁ it hi hv hJ hoff hs₁ hb F₁ N₁ hSt
    obtain ⟨h, tk, gs, rfl⟩ := hs₁
    exact step _ hlt i v m₁ news₁ _ it hv hJ hoff ⟨h, tk, gs, rfl⟩ hb F₁ N₁
  · intro h tk gs m' news' hb F₁ N₁ hJ
    exact done h tk gs m' news' hb F₁ N₁ hJ
end Mine

-- part P1
namespace Mine
theorem startP1 : True := by
  w_top off
  trivial
def restOf {α : Type} (l : List α) (i j : Nat) : List α := ((List.range l.length).filter fun k => !(k == i || k == j)).filterMap fun k => l[k]?

def compP (i j : Nat) : Value → Bool
  | .int k _ => !(decide (k = (i : Int)) || decide (k = (j : Int)))
  | _ => false
def compF (vs : List Value) (v y : Value) : Prop := ∃ (k : Nat) (t : Tok), v = .int (k : Int) t ∧ vs[k]? = some y

theorem paired_rest {vs : List Value} : ∀ {ks : List Nat} {us ys : List Value}, (∀ (j : Nat) (k : Nat), ks[j]? = some k → ∃ t, us[j]? = some (.int (k : Int) t)) → us.length = ks.length → Paired (compF vs) us ys → (∀ k ∈ ks, k < vs.length) → ys = ks.filterMap fun k => vs[k]?
  | [], [], ys, _, _, hp, _ => by cases hp; rfl
  | [], _ :: _, _, _, hl, _, _ => by cases hl
  | _ :: _, [], _, _, hl, _, _ => by cases hl
  | k :: ks, u :: us, ys, h, hl, hp, hk => by
    cases hp with
    | cons hF hp' =>
      obtain ⟨k', t', e1, e2⟩ := hF
      obtain ⟨t, e3⟩ := h 0 k rfl
      simp only [List.getElem?_cons_zero, Option.some.injEq] at e3
      rw [e3] at e1
      have : k = k' := by injection e1 with a _; exact Int.ofNat.inj a
      subst this
      rw [List.filterMap_cons, e2]
      congr 1
      exact paired_rest (fun j k hj => by have := h (j + 1) k (by simpa using hj); simpa using this) (by simpa using hl) hp' (fun k hk' => hk k (.tail _ hk'))

theorem filter_ints {i j n : Nat} : ∀ {us : List Value} {a : Nat}, (∀ (q : Nat) v, us[q]? = some v → ∃ t, v = .int ((a + q : Nat) : Int) t) → us.length = n →
    (∀ (q k : Nat), ((List.range' a n).filter fun k => !(k == i || k == j))[q]? = some k → ∃ t, (us.filter (compP i j))[q]? = some (.int (k : Int) t)) ∧ (us.filter (compP i j)).length = ((List.range' a n).filter fun k => !(k == i || k == j)).length := by
  induction n with
  | zero =>
    intro us a _ hl
    rw [List.length_eq_zero_iff] at hl
    subst hl
    exact ⟨fun q k h => (nomatch h), rfl⟩
  | succ n ih =>
    intro us a h hl
    cases us with
    | nil => cases hl
    | cons u us =>
      obtain ⟨t, hu⟩ := h 0 u rfl
      rw [Nat.add_zero] at hu
      subst hu
      have ih' := ih (us := us) (a := a + 1) (fun q v hq => by
        obtain ⟨t', e⟩ := h (q + 1) v (by simpa using hq)
        exact ⟨t', by rw [e, show a + (q + 1) = a + 1 + q by omega]⟩) (by simpa using hl)
      rw [List.range'_succ]
      have hc : compP i j (.int (a : Int) t) = !(a == i || a == j) := by
        show (!(decide ((a : Int) = (i : Int)) || decide ((a : Int) = (j : Int)))) = _
        congr 1
        congr 1
        · rw [Bool.eq_iff_iff, decide_eq_true_eq, beq_iff_eq]; omega
        · rw [Bool.eq_iff_iff, decide_eq_true_eq, beq_iff_eq]; omega
      cases hb : !(a == i || a == j) with
      | true =>
        have e1 := List.filter_cons_of_pos (p := compP i j) (a := .int (a : Int) t) (l := us) (by rw [hc, hb])
        have e2 := List.filter_cons_of_pos (p := fun k => !(k == i || k == j)) (a := a) (l := List.range' (a + 1) n) hb
        rw [e1, e2]
        refine ⟨fun q k hq => ?_, by simp [ih'.2]⟩
        cases q with
        | zero =>
          simp only [List.getElem?_cons_zero, Option.some.injEq] at hq ⊢
          subst hq
          exact ⟨t, rfl⟩
        | succ q =>
          simp only [List.getElem?_cons_succ] at hq ⊢
          exact ih'.1 q k hq
      | false =>
        have e1 := List.filter_cons_of_neg (p := compP i j) (a := .int (a : Int) t) (l := us) (by rw [hc, hb]; exact Bool.false_ne_true)
        have e2 := List.filter_cons_of_neg (p := fun k => !(k == i || k == j)) (a := a) (l := List.range' (a + 1) n) (by rw [hb]; exact Bool.false_ne_true)
        rw [e1, e2]
        exact ih'

theorem comp_rest {i j : Nat} {vs us ys : List Value} (h : ∀ (q : Nat) v, us[q]? = some v → ∃ t, v = .int (0 + (q : Int) * 1) t) (hl : us.length = vs.length) (hp : Paired (compF vs) (us.filter (compP i j)) ys) : ys = restOf vs i j := by
  have := filter_ints (i := i) (j := j) (n := vs.length) (us := us) (a := 0) (fun q v hq => by
    obtain ⟨t, e⟩ := h q v hq
    exact ⟨t, by rw [e]; congr 1; omega⟩) hl
  unfold restOf
  rw [List.range_eq_range']
  refine paired_rest this.1 this.2 hp fun k hk => ?_
  have := (List.mem_filter.mp hk).1
  simp [List.mem_range'] at this
  omega
end Mine
namespace Mine
theorem rest_cases {α : Type} (P : List α → Nat → Nat → α → α → Prop)
    (h2 : ∀ a b, P [a, b] 0 1 a b) (h3a : ∀ a b c, P [a, b, c] 0 1 a b) (h3b : ∀ a b c, P [a, b, c] 0 2 a c) (h3c : ∀ a b c, P [a, b, c] 1 2 b c)
    (h4a : ∀ a b c d, P [a, b, c, d] 0 1 a b) (h4b : ∀ a b c d, P [a, b, c, d] 0 2 a c) (h4c : ∀ a b c d, P [a, b, c, d] 0 3 a d) (h4d : ∀ a b c d, P [a, b, c, d] 1 2 b c) (h4e : ∀ a b c d, P [a, b, c, d] 1 3 b d) (h4f : ∀ a b c d, P [a, b, c, d] 2 3 c d) :
    ∀ (l : List α) (i j : Nat) (x y : α), l.length ≤ 4 → i < j → l[i]? = some x → l[j]? = some y → P l i j x y := by
  intro l i j x y hl hij hx hy
  have hj := (List.getElem?_eq_some_iff.mp hy).1
  match l, hl with
  | [], _ => simp at hj
  | [a], _ => simp at hj; omega
  | [a, b], _ =>
    have : i = 0 ∧ j = 1 := by simp at hj; omega
    obtain ⟨rfl, rfl⟩ := this
    simp at hx hy; subst hx hy; exact h2 _ _
  | [a, b, c], _ =>
    have : (i = 0 ∧ j = 1) ∨ (i = 0 ∧ j = 2) ∨ (i = 1 ∧ j = 2) := by simp at hj; omega
    rcases this with ⟨rfl, rfl⟩ | ⟨rfl, rfl⟩ | ⟨rfl, rfl⟩ <;> (simp at hx hy; subst hx hy)
    · exact h3a _ _ _
    · exact h3b _ _ _
    · exact h3c _ _ _
  | [a, b, c, d], _ =>
    have : (i = 0 ∧ j = 1) ∨ (i = 0 ∧ j = 2) ∨ (i = 0 ∧ j = 3) ∨ (i = 1 ∧ j = 2) ∨ (i = 1 ∧ j = 3) ∨ (i = 2 ∧ j = 3) := by simp at hj; omega
    rcases this with ⟨rfl, rfl⟩ | ⟨rfl, rfl⟩ | ⟨rfl, rfl⟩ | ⟨rfl, rfl⟩ | ⟨rfl, rfl⟩ | ⟨rfl, rfl⟩ <;> (simp at hx hy; subst hx hy)
    · exact h4a _ _ _ _
    · exact h4b _ _ _ _
    · exact h4c _ _ _ _
    · exact h4d _ _ _ _
    · exact h4e _ _ _ _
    · exact h4f _ _ _ _

theorem restOf_length {α : Type} {l : List α} {i j : Nat} {x y : α} (hl : l.length ≤ 4) (hij : i < j) (hx : l[i]? = some x) (hy : l[j]? = some y) : (restOf l i j).length + 2 = l.length :=
  rest_cases (fun l i j _ _ => (restOf l i j).length + 2 = l.length) (fun _ _ => rfl) (fun _ _ _ => rfl) (fun _ _ _ => rfl) (fun _ _ _ => rfl) (fun _ _ _ _ => rfl) (fun _ _ _ _ => rfl) (fun _ _ _ _ => rfl) (fun _ _ _ _ => rfl) (fun _ _ _ _ => rfl) (fun _ _ _ _ => rfl) l i j x y hl hij hx hy
theorem restOf_sum {α : Type} (f : α → Nat) {l : List α} {i j : Nat} {x y : α} (hl : l.length ≤ 4) (hij : i < j) (hx : l[i]? = some x) (hy : l[j]? = some y) : ((restOf l i j).map f).sum + f x + f y = (l.map f).sum := by
  refine rest_cases (fun l i j x y => ((restOf l i j).map f).sum + f x + f y = (l.map f).sum) ?_ ?_ ?_ ?_ ?_ ?_ ?_ ?_ ?_ ?_ l i j x y hl hij hx hy <;> intros <;> simp [restOf, List.range_succ, List.filter] <;> omega
end Mine

-- part L3
namespace Mine
theorem startL3 : True := by
  w_top off
  trivial
theorem fill7 (w : World) : Tag PySem.Challenge.rw_rl0016_01 (hd.heap_39 w.params = hd.heap_39 w.params) := by
  w_top off
  k_fill
  exact rfl

abbrev Nst := Int × Str
def NestAt (led : List (Addr × Obj)) (v : Value) (q : Nst) : Prop := ∃ a t u, v = .ref a ∧ (a, nestObj q.1 q.2 t u) ∈ led
def NestsAt (led : List (Addr × Obj)) : List Value → List Nst → Prop
  | [], [] => True
  | v :: vs, q :: qs => NestAt led v q ∧ NestsAt led vs qs
  | _, _ => False
theorem NestAt.mono {led led' : List (Addr × Obj)} (h : ∀ p ∈ led, p ∈ led') {v : Value} {q : Nst} (x : NestAt led v q) : NestAt led' v q :=
  let ⟨a, t, u, e, m⟩ := x; ⟨a, t, u, e, h _ m⟩
theorem NestsAt.mono {led led' : List (Addr × Obj)} (h : ∀ p ∈ led, p ∈ led') : ∀ {vs : List Value} {qs : List Nst}, NestsAt led vs qs → NestsAt led' vs qs
  | [], [], _ => trivial
  | _ :: _, _ :: _, x => ⟨x.1.mono h, NestsAt.mono h x.2⟩
  | [], _ :: _, x => x.elim
  | _ :: _, [], x => x.elim
theorem NestsAt.append {led : List (Addr × Obj)} : ∀ {vs vs' : List Value} {qs qs' : List Nst}, NestsAt led vs qs → NestsAt led vs' qs' → NestsAt led (vs ++ vs') (qs ++ qs')
  | [], _, [], _, _, y => y
  | _ :: _, _, _ :: _, _, x, y => ⟨x.1, NestsAt.append x.2 y⟩
  | [], _, _ :: _, _, x, _ => x.elim
  | _ :: _, _, [], _, x, _ => x.elim
theorem NestsAt.length {led : List (Addr × Obj)} : ∀ {vs : List Value} {qs : List Nst}, NestsAt led vs qs → vs.length = qs.length
  | [], [], _ => rfl
  | _ :: _, _ :: _, x => congrArg (· + 1) (NestsAt.length x.2)
  | [], _ :: _, x => x.elim
  | _ :: _, [], x => x.elim
theorem NestsAt.get {led : List (Addr × Obj)} : ∀ {vs : List Value} {qs : List Nst} {i : Nat} {q : Nst}, NestsAt led vs qs → qs[i]? = some q → ∃ v, vs[i]? = some v ∧ NestAt led v q
  | [], [], _, _, _, h => by cases h
  | v :: _, q :: _, 0, _, x, h => ⟨v, rfl, by cases h; exact x.1⟩
  | _ :: _, _ :: _, i + 1, _, x, h => NestsAt.get (i := i) x.2 (by simpa using h)
  | [], _ :: _, _, _, x, _ => x.elim
  | _ :: _, [], _, _, x, _ => x.elim

def jn (a b : Nst) : Nst := (jd a.1 b.1, jx a.2 b.2)
inductive Reach : List Nst → Nst → Prop
  | one (q : Nst) : Reach [q] q
  | join {qs : List Nst} {i j : Nat} {a b r : Nst} : i < j → qs[i]? = some a → qs[j]? = some b → Reach (restOf qs i j ++ [jn a b]) r → Reach qs r

def fmW (R : Value) (oth : Option Value) : Str → Option Value := fun y => if y = Str.ofString "ways" then some R else if y = Str.ofString "others" then oth else none
local macro_rules | `(tactic| k_all) => `(tactic| assumption)
theorem newsDup {h₀ h : Heap} {L : Addr} {a b news : List (Addr × Obj)} (N : News h₀ L h (a ++ news)) (hb : ∀ p ∈ b, p ∈ news) : News h₀ L h (a ++ (b ++ news)) := fun p hp => N p (by
  rcases List.mem_append.mp hp with hp | hp
  · exact List.mem_append_left _ hp
  · rcases List.mem_append.mp hp with hp | hp
    · exact List.mem_append_right _ (hb p hp)
    · exact List.mem_append_right _ hp)

theorem my_item {prog : Program} {w : World} {A : Around} {E : Value → Shared → Prop} {s : Shared} {value slice : PySem.Expr} {l : Addr} {its : Array Value} {k : Int} {u : Tok} {v : Value} {Q : Value → Shared → Prop}
    (hl : s.heap.IsList l its) (h0 : 0 ≤ k) (hhi : k < 2 ^ 63) (hx : its[k.toNat]? = some v) (h : Q v s)
    (hs : subscripted slice false (.ref l) (.int k u) = operate [.ref l, .int k u] (getItem (.ref l) (.int k u)) := by with_unfolding_all rfl) :
    wpAny (model prog w) A (subscriptTail value slice (.ref l) (.int k u)) Q E s :=
  tail_any hl.typeIs slot_list_getitem.lookup (wpAny_getItem_list hl h0 hhi hx h) hs
theorem twoLe (a b : Value) : [a, b].length ≤ sizeLine := by show 2 ≤ sizeLine; decide
theorem fmW_oth (R D : Value) (oth : Option Value) : (fun y => if y = Str.ofString "others" then some D else fmW R oth y) = fmW R (some D) := by
  funext y
  by_cases h1 : y = Str.ofString "others"
  · subst h1; rfl
  rw [if_neg h1]
  unfold fmW
  rw [if_neg h1, if_neg h1]
theorem idx1 {q n : Nat} (h : q < n) (hn : n ≤ 4) : 0 ≤ (0 + (q : Int) * 1) ∧ (0 + (q : Int) * 1) < 2 ^ 63 ∧ (0 + (q : Int) * 1).toNat = q ∧ (0 + (q : Int) * 1) = (q : Int) := by
  refine ⟨by omega, by omega, by omega, by omega⟩
theorem idx2 {q : Nat} (hn : q ≤ 4) : 0 ≤ (q : Int) ∧ (q : Int) < 2 ^ 63 ∧ (q : Int).toNat = q := by
  refine ⟨by omega, by omega, by omega⟩
theorem notInPair (i j x : Int) : (!([i, j].any (· == x))) = (!(decide (x = i) || decide (x = j))) := by
  show (!((i == x) || ((j == x) || false))) = _
  rw [Bool.or_false]
  congr 1
  congr 1
  · rw [Bool.eq_iff_iff, beq_iff_eq, decide_eq_true_eq]; exact eq_comm
  · rw [Bool.eq_iff_iff, beq_iff_eq, decide_eq_true_eq]; exact eq_comm
theorem nestItem {prog : Program} {w : World} {A : Around} {E : Value → Shared → Prop} {s : Shared} {h₀ : Heap} {L a : Addr} {cnm : Str} {cs : Scope} {ccd : Value} {cl : List (Str × Addr)} {led : List (Addr × Obj)} {y x : Str} {p1 p2 p3 : Pos} {c1 c2 l : Addr} {o1 o2 : Obj} {vs : Array Value} {kl : Nat} {i : Int} {t : Tok} {v : Value} {Q : Value → Shared → Prop}
    (N : News h₀ L s.heap led) (hc1 : cl.lookup y = some c1) (hc2 : cl.lookup x = some c2) (m1 : (c1, o1) ∈ led) (d1 : o1.data = .cell (some (.ref l))) (m2 : (c2, o2) ∈ led) (d2 : o2.data = .cell (some (.int i t))) (ml : (l, W.listOf vs kl) ∈ led)
    (h0 : 0 ≤ i) (hhi : i < 2 ^ 63) (hv : vs[i.toNat]? = some v) (h : Q v s)
    (hk : cs.kind = .function) (hx1 : (envX cnm cs L a ccd cl).kindOf y = some .cell) (hx2 : (envX cnm cs L a ccd cl).kindOf x = some .cell) (hb1 : (y == ("__debug__" : Str)) = false) (hb2 : (x == ("__debug__" : Str)) = false) :
    wpAny (model prog w) A (eval (.Subscript (.Name y p1) (.Name x p2) p3) (envX cnm cs L a ccd cl)) Q E s := by
  refine Subscript_ (nameX_C N hc1 m1 d1 ?_ hk hx1 hb1)
  refine nameX_C N hc2 m2 d2 ?_ hk hx2 hb2
  exact my_item ⟨_, (N _ ml).1, rfl, _, rfl⟩ h0 hhi hv h
local macro_rules | `(tactic| walk_at "eval Subscript") => `(tactic| (k_here; (with_reducible show wpAny _ _ (eval (PySem.Expr.Subscript (PySem.Expr.Name _ _) (PySem.Expr.Name _ _) _) _) _ _ _); k_dflt (refine' nestItem ?k1 ?k2 ?k3 ?k4 ?k5 ?k6 ?k7 ?k8 ?k9 ?k10 ?k11 ?_ ?c1 ?c2 ?c3 ?c4 ?c5; (case k1 => k_asm); (case k2 => rfl); (case k3 => rfl); (case c1 => rfl); (case c2 => rfl); (case c3 => rfl); (case c4 => decide); (case c5 => decide); (case k4 => k_mem); (case k5 => assumption); (case k6 => k_mem); (case k7 => assumption); (case k8 => k_mem); (case k9 => assumption); (case k10 => assumption); (case k11 => assumption); k_whole)))

def szB (qs : List Nst) : Nat := (qs.map (·.2.length)).sum + 2 * qs.length

theorem mem8 {α : Type} {x a b c d e f g k : α} {tl news : List α} (h : x ∈ news) : x ∈ a :: b :: c :: d :: e :: f :: g :: k :: (tl ++ news) :=
  .tail _ (.tail _ (.tail _ (.tail _ (.tail _ (.tail _ (.tail _ (.tail _ (List.mem_append_right _ h))))))))
theorem NestsAt.only {led led' : List (Addr × Obj)} (h : ∀ p ∈ led, (∃ d x t u, p.2 = nestObj d x t u) → p ∈ led') : ∀ {vs : List Value} {qs : List Nst}, NestsAt led vs qs → NestsAt led' vs qs
  | [], [], _ => trivial
  | _ :: _, _ :: _, x => ⟨let ⟨a, t, u, e, m⟩ := x.1; ⟨a, t, u, e, h _ m ⟨_, _, _, _, rfl⟩⟩, NestsAt.only h x.2⟩
  | [], _ :: _, x => x.elim
  | _ :: _, [], x => x.elim
theorem pow16 {n : Nat} (h : n ≤ 4) : 16 ^ (n - 1) ≤ 4096 := by
  have : n = 0 ∨ n = 1 ∨ n = 2 ∨ n = 3 ∨ n = 4 := by omega
  rcases this with rfl | rfl | rfl | rfl | rfl <;> decide
theorem pow16n {n : Nat} (h : n ≤ 4) (h1 : 1 ≤ n) : 4 * n * 16 ^ (n - 1) ≤ 16 ^ n := by
  have : n = 1 ∨ n = 2 ∨ n = 3 ∨ n = 4 := by omega
  rcases this with rfl | rfl | rfl | rfl <;> decide
theorem szStep {i j n a b : Nat} (hn : n ≤ 4) (hj : j < n) (hi : i < j) (ha : a ≤ (4 * j + i) * 16 ^ (n - 1)) (hb : b ≤ 16 ^ (n - 1)) : a + b ≤ (4 * j + (i + 1)) * 16 ^ (n - 1) ∧ a + b ≤ 70000 := by
  have h1 := pow16 hn
  generalize 16 ^ (n - 1) = P at *
  have e : (4 * j + (i + 1)) * P = (4 * j + i) * P + P := by rw [← Nat.add_assoc, Nat.add_mul, Nat.one_mul]
  have h2 : (4 * j + i) * P ≤ 15 * P := Nat.mul_le_mul_right _ (by omega)
  omega
theorem szOut {j n a : Nat} (hn : n ≤ 4) (hj : j < n) (ha : a ≤ (4 * j + j) * 16 ^ (n - 1)) : a ≤ 4 * (j + 1) * 16 ^ (n - 1) :=
  Nat.le_trans ha (Nat.mul_le_mul_right _ (by omega))
theorem insMem {α : Type} {p r : α} {t a b : List α} (h : p ∈ r :: (t ++ (a ++ b))) : p ∈ t ++ (a ++ r :: b) := by
  simp only [List.mem_cons, List.mem_append] at h ⊢; grind
theorem insMem' {α : Type} {p r : α} {t a b : List α} (h : p ∈ t ++ (a ++ r :: b)) : p ∈ r :: (t ++ (a ++ b)) := by
  simp only [List.mem_cons, List.mem_append] at h ⊢; grind
theorem notNestL {its : Array Value} {n : Nat} {d x t u} : W.listOf its n ≠ nestObj d x t u := fun e => by
  have := congrArg Obj.cls e
  exact absurd (Value.type.inj this) (by decide)
theorem notNestC {o : Obj} {v : Option Value} (h : o.data = .cell v) {d x t u} : o ≠ nestObj d x t u := fun e => by rw [e] at h; cases h
theorem notNestI {o : Obj} (h : o.cls = .type "range_iterator") {d x t u} : o ≠ nestObj d x t u := fun e => by
  rw [e] at h
  exact absurd (Value.type.inj h) (by decide)
theorem lineIs : sizeLine = 16777216 := by decide
theorem NestsAt.pick {led : List (Addr × Obj)} {vs : List Value} {qs : List Nst} (h : NestsAt led vs qs) : ∀ ks : List Nat, NestsAt led (ks.filterMap fun k => vs[k]?) (ks.filterMap fun k => qs[k]?)
  | [] => trivial
  | k :: ks => by
    cases hq : qs[k]? with
    | none =>
      have hv : vs[k]? = none := by
        rw [List.getElem?_eq_none_iff] at hq ⊢
        rw [h.length]; exact hq
      rw [List.filterMap_cons, List.filterMap_cons, hq, hv]
      exact NestsAt.pick h ks
    | some q =>
      obtain ⟨v, hv, hn⟩ := h.get hq
      rw [List.filterMap_cons, List.filterMap_cons, hq, hv]
      exact ⟨hn, NestsAt.pick h ks⟩
theorem NestsAt.rest {led : List (Addr × Obj)} {vs : List Value} {qs : List Nst} (h : NestsAt led vs qs) (i j : Nat) : NestsAt led (restOf vs i j) (restOf qs i j) := by
  unfold restOf
  rw [h.length]
  exact h.pick _
theorem jx_len (x y : Str) : (jx x y).length = x.length + y.length + 2 := by
  unfold jx
  rw [Str.length_append, Str.length_append, Str.length_append]
  have h1 : (Str.ofString ")").length = 1 := by decide +kernel
  have h2 : (Str.ofString "(").length = 1 := by decide +kernel
  omega
theorem szB_join {qs : List Nst} {i j : Nat} {a b : Nst} (hl : qs.length ≤ 4) (hij : i < j) (ha : qs[i]? = some a) (hb : qs[j]? = some b) : szB (restOf qs i j ++ [jn a b]) = szB qs := by
  have h1 := restOf_length hl hij ha hb
  have h2 := restOf_sum (fun q : Nst => q.2.length) hl hij ha hb
  unfold szB
  rw [List.map_append, List.sum_append, List.length_append]
  have h3 : (jn a b).2.length = a.2.length + b.2.length + 2 := jx_len _ _
  simp only [List.map_cons, List.map_nil, List.sum_cons, List.sum_nil, List.length_cons, List.length_nil]
  omega
theorem sum_mem {f : Nst → Nat} : ∀ {l : List Nst} {q : Nst}, q ∈ l → f q ≤ (l.map f).sum
  | _ :: _, _, .head _ => by simp
  | _ :: _, _, .tail _ h => by have := sum_mem (f := f) h; simp; omega
theorem szB_mem {qs : List Nst} {q : Nst} (h : q ∈ qs) : q.2.length ≤ szB qs := by
  have := sum_mem (f := fun q : Nst => q.2.length) h
  unfold szB; omega

def WaysOk (n : Nat) : Prop := ∀ {w : World} {loose : List Str} {mean : ExcName → Option Value} {mg mb : Str → Option Value} {dp un : Nat} {gd : Option (List Code)} {cn : Str} {cs : Scope} {a : Addr} {ccd : Value} {cl : List (Str × Addr)} {outer : List Env} {A₀ : Around} {base h₀ : Heap} {L : Addr} {m : Str → Option Value} {news : List (Addr × Obj)} {s : Shared} {Q E : Value → Shared → Prop} {l : Addr} {vs : Array Value} {kl : Nat} {qs : List Nst},
    Below A₀ base outer h₀ → Fr h₀ L s.heap m → (hd.heap_39 w.params).In h₀ → News h₀ L s.heap news → Top hd.view_39 loose mean mg mb h₀ → cs.kind = .function → AllBare s.gens →
    dp + 2 * n + 12 < recursionLimit → un + 16 * n + 128 < cLine → qs.length = n → (l, W.listOf vs kl) ∈ news → NestsAt news vs.toList qs → szB qs ≤ 100 →
    (∀ l' ws k' rs tl h' tk' gs', AllBare gs' → Fr h₀ L h' m → News h₀ L h' (tl ++ news) → (∀ q ∈ news, ∀ p ∈ tl, q.1 < p.1) → (l', W.listOf ws k') ∈ tl ++ news → NestsAt (tl ++ news) ws.toList rs → (∀ r ∈ rs, Reach qs r) → ws.size ≤ 16 ^ n → 0 < ws.size → Q (.ref l') { s with heap := h', toks := tk', gens := gs' }) →
    wpAny (model theProg w) (ktrTop dp un gd cn cs L a ccd cl outer) (call (.ref 61) [.ref l]) Q E s

theorem ways_step (n : Nat) (hn4 : n ≤ 4) (IH : ∀ k < n, 1 ≤ k → WaysOk k) (hn1 : 1 ≤ n) : WaysOk n := by
  intro w loose mean mg mb dp un gd cn cs a ccd cl outer A₀ base h₀ L m news s Q E l vs kl qs B F X N T hk hb hd hu hql ml hqs hsz ret
  refine wpAny_call ?_
  refine code_defC (binds := [(Str.ofString "nests", .ref l)]) B F X N T rfl rfl hk (by k_is) (by k_is) (by dsimp only [ktrTop]; omega) (BindsTo.of_eq rfl) rfl (by decide +kernel) (fun g L' h₁ tk cells FG F' N' CA B' X' T' hlow => ?_) rfl rfl rfl
  have hvl : vs.size = n := by
    have := hqs.length
    rw [hql] at this
    simpa using this
  have N'' := newsDup (b := [(l, W.listOf vs kl)]) N' (fun p hp => by rw [List.mem_singleton.mp hp]; exact ml)
  clear N'
  have lw1 : @LT.lt Nat _ l L' := hlow _ ml
  have ln1 : ∀ p ∈ news, p.1 ≠ L' + 1 := fun p hp => Nat.ne_of_lt (Nat.lt_succ_of_lt (hlow p hp))
  have ln2 : ∀ p ∈ news, p.1 ≠ L' + 1 + 1 := fun p hp => Nat.ne_of_lt (Nat.lt_succ_of_lt (Nat.lt_succ_of_lt (hlow p hp)))
  have ln3 : ∀ p ∈ news, p.1 ≠ L' + 1 + 1 + 1 := fun p hp => Nat.ne_of_lt (Nat.lt_succ_of_lt (Nat.lt_succ_of_lt (Nat.lt_succ_of_lt (hlow p hp))))
  k_cells CA
  (try simp only [List.cons_append, List.nil_append] at N'')
  (try dsimp only)
  (try k_lift B')
  (try k_fold)
  k_steps
  · rename (n : Int) = 1 => h1
    rename Fr h₀ L _ _ => F9
    rename News h₀ L _ _ => N9
    have h1' : n = 1 := by omega
    obtain ⟨q, rfl⟩ : ∃ q, qs = [q] := List.length_eq_one_iff.mp (hql.trans h1')
    refine ret l vs kl [q] [] _ _ _ hb F9 (fun p hp => N9 p ?_) (fun _ _ _ h => nomatch h) ml hqs (fun r hr => by rw [List.mem_singleton.mp hr]; exact .one q) (by rw [hvl, h1']; decide) (by rw [hvl, h1']; decide)
    exact .tail _ (.tail _ (.tail _ (.tail _ hp)))
  · rename_i oi oj on di dj dn hn1' tkx R hA hlt1 hB F2 N2
    have hmF : ∀ y, (if y = Str.ofString "ways" then some (Value.ref R) else none) = fmW (.ref R) none y := fun y => by
      unfold fmW
      split
      · rfl
      · split <;> rfl
    replace F2 : Fr g L' hB (fmW (.ref R) none) := by
      have : fmW (.ref R) none = (fun y => if y = Str.ofString "ways" then some (Value.ref R) else none) := funext fun y => (hmF y).symm
      rw [this]
      exact F2
    replace di : oi.data = .cell none := di
    replace dj : oj.data = .cell none := dj
    replace dn : on.data = .cell (some (.ref l)) := dn
    refine wpAny_For ?_ (fun _ => rfl)
    k_steps
    rename IsRange _ _ _ _ _ _ _ _ => hrg
    rename Fr g L' _ _ => F3
    rename News g L' _ _ => N3
    have hlow' : ∀ p ∈ news, @LT.lt Nat _ p.1 L' := hlow
    refine range_for hn4 rfl hrg hb F3 (news := (L' + 1 + 1, oj) :: (L' + 1 + 1 + 1, oi) :: (R, W.listOf #[] 0) :: (L' + 1, on) :: (l, W.listOf vs kl) :: ([] ++ news)) (fun p hp => N3 p (by simp only [List.mem_cons, List.nil_append] at hp ⊢; grind))
      (fun j m₁ news₁ => ∃ oi' oj' vi vj ws k rs tl oth, m₁ = fmW (.ref R) oth ∧ news₁ = (L' + 1 + 1, oj') :: (L' + 1 + 1 + 1, oi') :: (R, W.listOf ws k) :: (L' + 1, on) :: (l, W.listOf vs kl) :: (tl ++ news) ∧ oi'.data = .cell vi ∧ oj'.data = .cell vj ∧
        NestsAt (tl ++ news) ws.toList rs ∧ (∀ r ∈ rs, Reach qs r) ∧ (∀ p ∈ tl, @LT.lt Nat _ R p.1) ∧ ws.size ≤ 4 * j * 16 ^ (n - 1) ∧ (2 ≤ j → 0 < ws.size)) ?_ ?_ ?_
    · exact ⟨oi, oj, none, none, #[], 0, [], [], none, rfl, rfl, di, dj, trivial, (fun _ h => nomatch h), (fun _ h => nomatch h), Nat.zero_le _, fun h => absurd h (by decide)⟩
    · rintro I hIlt j tj _ _ s₁ it hj ⟨oi', oj', vi, vj, ws, k, rs, tl, oth, rfl, rfl, di', dj', hws, hrs, htl, hwsz, hpos⟩ hoff hs₁ hb₁ F4 N4 hitc
      obtain ⟨hX, tX, gX, rfl⟩ := hs₁
      have i1 : @LT.lt Nat _ R I := hIlt (R, W.listOf #[] 0) (by simp)
      have hcR : @LT.lt Nat _ (L' + 1 + 1 + 1) R := hlt1.1
      have z0 : ∀ p ∈ tl ++ news, @LT.lt Nat _ p.1 L' ∨ @LT.lt Nat _ R p.1 := fun p hp => by
        rcases List.mem_append.mp hp with hp | hp
        · exact .inr (htl p hp)
        · exact .inl (hlow' p hp)
      have z1 : ∀ p ∈ tl ++ news, p.1 ≠ L' + 1 + 1 := fun p hp => neN (by have := z0 p hp; omega)
      clear F3 N3 hrg hIlt
      generalize hZ : WalkOut _ _ _ _ _ _ _ = Z
      refine wpAny_assign_Name ?_
      k_steps
      rename_i hY oj2 F5 N5 dj2
      refine wpAny_For ?_ (fun _ => rfl)
      k_steps
      rename IsRange _ _ _ _ _ _ _ _ => hrg2
      rename Fr g L' _ _ => F6
      rename News g L' _ _ => N6
      have hoffI : ∀ p ∈ tl, p.1 ≠ I := fun p hp => hoff p (by simp [hp])
      refine range_for (n := j) (by omega) rfl hrg2 hb₁ F6 N6
        (fun i m₁ news₁ => ∃ oi' vi ws k rs tl oth, m₁ = fmW (.ref R) oth ∧ news₁ = (I, it) :: (L' + 1 + 1, oj2) :: (L' + 1 + 1 + 1, oi') :: (R, W.listOf ws k) :: (L' + 1, on) :: (l, W.listOf vs kl) :: (tl ++ news) ∧ oi'.data = .cell vi ∧
          NestsAt (tl ++ news) ws.toList rs ∧ (∀ r ∈ rs, Reach qs r) ∧ (∀ p ∈ tl, @LT.lt Nat _ R p.1) ∧ (∀ p ∈ tl, p.1 ≠ I) ∧ ws.size ≤ (4 * j + i) * 16 ^ (n - 1) ∧ (2 ≤ j ∨ 1 ≤ i → 0 < ws.size)) ?_ ?_ ?_
      · exact ⟨oi', vi, ws, k, rs, tl, oth, rfl, rfl, di', hws, hrs, htl, hoffI, by simpa using hwsz, fun h => hpos (by omega)⟩
      · clear hws hrs htl hoffI hwsz hpos di' z0 z1 N6 F6 hrg2 hoff
        rintro I2 hI2lt i ti _ _ s₂ it2 hi ⟨oi2, vi2, ws2, k2, rs2, tl2, oth2, rfl, rfl, di2, hws2, hrs2, htl2, hoffI2, hwsz2, hpos2⟩ hoff2 hs₂ hb₂ F7 N7 hitc2
        obtain ⟨hX2, tX2, gX2, rfl⟩ := hs₂
        have i2 : @LT.lt Nat _ I I2 := hI2lt (I, it) (by simp)
        have z0 : ∀ p ∈ tl2 ++ news, @LT.lt Nat _ p.1 L' ∨ @LT.lt Nat _ R p.1 := fun p hp => by
          rcases List.mem_append.mp hp with hp | hp
          · exact .inr (htl2 p hp)
          · exact .inl (hlow' p hp)
        have z2 : ∀ p ∈ tl2 ++ news, p.1 ≠ L' + 1 + 1 + 1 := fun p hp => neN (by have := z0 p hp; omega)
        have z3 : ∀ p ∈ tl2 ++ news, p.1 ≠ R := fun p hp => neN (by have := z0 p hp; omega)
        generalize hZ2 : WalkOut _ _ _ _ _ _ _ = Z2
        refine wpAny_assign_Name ?_
        refine storeX_C F7 N7 (c := L' + 1 + 1 + 1) rfl (by k_updF) di2 (fun h8 oi3 F8 N8 di3 => ?_)
        refine wpAny_execs_cons (wpAny_Assign_ListComp_free (cl := [(Str.ofString "nests", L' + 1), (Str.ofString "j", L' + 1 + 1), (Str.ofString "i", L' + 1 + 1 + 1)]) (compP i j) (compF vs.toList) rfl rfl (by decide) rfl (by decide) rfl rfl rfl ?_ (fun _ => rfl))
        k_steps
        rename_i h9 tk9 t9 u9 v9 hrg3 F9 N9 hk9
        obtain ⟨hsm, hszr⟩ := range4 hn4
        refine wpAny_pyIter_range hrg3 hsm ?_
        rw [hszr]
        have hin9 : ∀ p : Addr × Obj, h9.get? p.1 = some p.2 → p.1 ∉ [h9.objs.size] := fun p hp q => Nat.lt_irrefl _ ((List.mem_singleton.mp q) ▸ Heap.lt_size hp)
        refine ⟨h9.objs.size, [h9.objs.size], [h9.objs.size], n, _, _, fmW (.ref R) oth2, rfl, (Walks.range rfl h9.objs.size 0 1 n).bound, Nat.le_trans hn4 (by decide), ?_, ?_, ?_, ?_, ⟨?_, ?_⟩, ?_⟩
        · show IsRangeIter _ _ _ _ _
          simpa using Heap.get?_push_size _ rfl
        · intro b hb
          rw [List.mem_singleton.mp hb]
          show h9.objs.size < (h9.push _).objs.size
          rw [Heap.size_push]; exact Nat.lt_succ_self _
        · intro hb
          exact Nat.lt_irrefl _ ((List.mem_singleton.mp hb) ▸ F9.ns.lt)
        · exact F9.ns.push _
        · rintro C q v s₃ m₃ E' hC ⟨hqn, t, rfl⟩ hNs hmx hkeep htk
          have gi : s₃.heap.get? (L' + 1 + 1 + 1) = some oi3 := hkeep _ _ (hin9 (L' + 1 + 1 + 1, oi3) (N9 _ (by simp)).1) (Heap.get?_push_of_some _ (N9 (L' + 1 + 1 + 1, oi3) (by simp)).1)
          have gj : s₃.heap.get? (L' + 1 + 1) = some oj2 := hkeep _ _ (hin9 (L' + 1 + 1, oj2) (N9 _ (by simp)).1) (Heap.get?_push_of_some _ (N9 (L' + 1 + 1, oj2) (by simp)).1)
          refine wpAny_tests_one (wpAny_isTrue_Compare1 (wpAny_Name (wpAny_loadName_local rfl rfl hNs hmx ?_)))
          refine Tuple_ (args_cons (wpAny_Name (wpAny_loadName_cell rfl rfl rfl ⟨oi3, gi, di3⟩ ?_)))
          refine args_cons (wpAny_Name (wpAny_loadName_cell rfl rfl rfl ⟨oj2, gj, dj2⟩ (args_nil ?_)))
          refine wpAny_newTuple (hsz := twoLe _ _) (notin_tuple_ints (ns := [(i : Int), (j : Int)]) ⟨_, Heap.get?_push_size _ rfl, rfl, _, rfl⟩ (.cons _ _ (.cons _ _ .nil)) (wpAny_truthy_bool ⟨?_, ?_⟩))
          · exact notInPair _ _ _
          · exact ⟨_, _, rfl, fun b o e => Heap.get?_push_of_some _ e⟩
        · rintro C q v s₃ m₃ E' hC ⟨hqn, t, rfl⟩ hp hNs hmx hkeep htk
          have gn : s₃.heap.get? (L' + 1) = some on := hkeep _ _ (hin9 (L' + 1, on) (N9 _ (by simp)).1) (Heap.get?_push_of_some _ (N9 (L' + 1, on) (by simp)).1)
          have gl : s₃.heap.get? l = some (W.listOf vs kl) := hkeep _ _ (hin9 (l, W.listOf vs kl) (N9 _ (by simp)).1) (Heap.get?_push_of_some _ (N9 (l, W.listOf vs kl) (by simp)).1)
          have hqv : q < vs.size := hvl ▸ hqn
          refine Subscript_ (wpAny_Name (wpAny_loadName_cell rfl rfl rfl ⟨on, gn, dn⟩ ?_))
          refine wpAny_Name (wpAny_loadName_local rfl rfl hNs hmx ?_)
          obtain ⟨w1, w2, w3, w4⟩ := idx1 hqn hn4
          refine my_item (v := vs[q]) ⟨_, gl, rfl, _, rfl⟩ w1 w2 ?_ ?_
          · rw [w3, Array.getElem?_eq_getElem hqv]
          · exact ⟨⟨q, t, by rw [w4], by rw [Array.getElem?_toList, Array.getElem?_eq_getElem hqv]⟩, _, _, rfl, fun _ _ e => e⟩
        · intro D h10 tk10 ys us hD hlD hplD hlen hP hpair hNs hk10
          have eys : ys.toList = restOf vs.toList i j := comp_rest (fun q v hq => (hP q v hq).2) (hlen.trans (by simp [hvl])) hpair
          obtain ⟨nD, eD⟩ := hplD
          have up10 : ∀ b o, b ≠ L' → h9.get? b = some o → h10.get? b = some o := fun b o hb e => hk10 b o hb (hin9 (b, o) e) (Heap.get?_push_of_some _ e)
          have hDL : D ≠ L' := fun e => by
            obtain ⟨o, _, _, ho, _⟩ := F9.ns
            have := Heap.get?_push_of_some { cls := .type "range_iterator", data := .fields #[rawInt 0, rawInt (n : Int), rawInt 1] } ho
            rw [e] at hD
            exact absurd this (by rw [hD]; nofun)
          have F10 : Fr g L' h10 (fmW (.ref R) (some (.ref D))) := by
            refine ⟨?_, fun b o e => up10 b o (fun q => ?_) (F9.keep b o e), F9.above⟩
            · rw [← fmW_oth]; exact hNs
            · exact Nat.lt_irrefl _ (Nat.lt_of_lt_of_le (Heap.lt_size e) (q ▸ F9.above))
          have N10 : News g L' h10 ((D, W.listOf ys nD) :: (R, W.listOf ws2 k2) :: (L' + 1 + 1 + 1, oi3) :: (L' + 1 + 1, oj2) :: (L' + 1, on) :: (l, W.listOf vs kl) :: (I2, it2) :: (I, it) :: (tl2 ++ news)) := by
            intro p hp
            rcases List.mem_cons.mp hp with rfl | hp
            · refine ⟨eD, hDL, ?_⟩
              cases q : g.get? D with
              | none => rfl
              | some o =>
                have := Heap.get?_push_of_some { cls := .type "range_iterator", data := .fields #[rawInt 0, rawInt (n : Int), rawInt 1] } (F9.keep _ _ q)
                exact absurd this (by rw [hD]; nofun)
            · have h9p := N9 p (by simp only [List.mem_cons] at hp ⊢; grind)
              exact ⟨up10 _ _ h9p.2.1 h9p.1, h9p.2⟩
          have hDne : ∀ p ∈ (R, W.listOf ws2 k2) :: (L' + 1 + 1 + 1, oi3) :: (L' + 1 + 1, oj2) :: (L' + 1, on) :: (l, W.listOf vs kl) :: (I2, it2) :: (I, it) :: (tl2 ++ news), p.1 ≠ D := fun p hp e => by
            have h9p := N9 p (by simp only [List.mem_cons] at hp ⊢; grind)
            have := Heap.get?_push_of_some { cls := .type "range_iterator", data := .fields #[rawInt 0, rawInt (n : Int), rawInt 1] } h9p.1
            rw [e] at this
            exact absurd this (by rw [hD]; nofun)
          clear N9 F9 hrg3
          have hjn : j < qs.length := by rw [hql]; exact hj
          have hin' : i < qs.length := Nat.lt_trans hi hjn
          obtain ⟨va, hva, ai, tai, uai, rfl, mai⟩ := hqs.get (List.getElem?_eq_getElem hin')
          obtain ⟨vb, hvb, aj, taj, uaj, rfl, maj⟩ := hqs.get (List.getElem?_eq_getElem hjn)
          obtain ⟨w1, w2, w3⟩ := idx2 (q := i) (by omega)
          obtain ⟨w4, w5, w6⟩ := idx2 (q := j) (by omega)
          have hvi : vs[((i : Nat) : Int).toNat]? = some (Value.ref ai) := by rw [w3]; simpa using hva
          have hvj : vs[((j : Nat) : Int).toNat]? = some (Value.ref aj) := by rw [w6]; simpa using hvb
          dsimp only
          clear hk10 hpair hP hlD hNs hlen hD up10 hin9 hk9
          iterate 19 (first | (k_unfold; (try dsimp only)) | walk1 | (dsimp only; walk1))
          refine nestItem (o1 := on) (o2 := oi3) (vs := vs) (kl := kl) (cl := cellsFrom (L' + 1) _ []) N10 rfl rfl (by simp) dn (by simp) di3 (by simp) w1 w2 hvi ?_ rfl rfl rfl (by decide) (by decide)
          iterate 1 (first | (k_unfold; (try dsimp only)) | walk1 | (dsimp only; walk1))
          refine nestItem (o1 := on) (o2 := oj2) (vs := vs) (kl := kl) (cl := cellsFrom (L' + 1) _ []) N10 rfl rfl (by simp) dn (by simp) dj2 (by simp) w4 w5 hvj ?_ rfl rfl rfl (by decide) (by decide)
          iterate 2 (first | (k_unfold; (try dsimp only)) | walk1 | (dsimp only; walk1))
          have hea : qs[i]? = some qs[i] := List.getElem?_eq_getElem hin'
          have heb : qs[j]? = some qs[j] := List.getElem?_eq_getElem hjn
          have hla := Nat.le_trans (szB_mem (List.getElem_mem hin')) hsz
          have hlb := Nat.le_trans (szB_mem (List.getElem_mem hjn)) hsz
          generalize qs[i] = qa at hea hla mai
          generalize qs[j] = qb at heb hlb maj
          obtain ⟨da, xa⟩ := qa
          obtain ⟨db, xb⟩ := qb
          refine joined_call (cl := cellsFrom (L' + 1) _ []) (a1 := ai) (a2 := aj) (d1 := da) (d2 := db) (x1 := xa) (x2 := xb) B' F10 X' N10 T' rfl (by dsimp only [ktrTop, Around.deeper]; omega) (by dsimp only [ktrTop, Around.deeper]; omega) (mem8 mai) (mem8 maj) hla hlb fun DJ tJ uJ h11 tk11 F11 N11 hltJ => ?_
          have hR11 : @LT.lt Nat _ R h11.objs.size := Heap.lt_size (N11 (R, W.listOf ws2 k2) (by simp)).1
          iterate 2 (first | (k_unfold; (try dsimp only)) | walk1 | (dsimp only; walk1))
          rename_i h12 F12 N12
          have hysl : ys.size + 2 = n := by
            have e1 := restOf_length (l := vs.toList) (by simp [hvl]; exact hn4) hi hva hvb
            rw [← eys] at e1
            simpa [hvl] using e1
          refine add_arrays F12 N12 (l := D) (its := ys) (its2 := #[.ref DJ]) ⟨_, (N12 (D, W.listOf ys nD) (by simp)).1, rfl, _, rfl⟩ ⟨_, (N12 _ (.head _)).1, rfl, _, rfl⟩ (fun h13 F13 N13 => ?_) (Nat.le_trans (m := 4) (by show ys.size + 1 ≤ 4; omega) (by decide))
          iterate 2 (first | (k_unfold; (try dsimp only)) | walk1 | (dsimp only; walk1))
          have hlt12 : ∀ p ∈ (DJ, nestObj (jd da db) (jx xa xb) tJ uJ) :: (D, W.listOf ys nD) :: (R, W.listOf ws2 k2) :: (L' + 1 + 1 + 1, oi3) :: (L' + 1 + 1, oj2) :: (L' + 1, on) :: (l, W.listOf vs kl) :: (I2, it2) :: (I, it) :: (tl2 ++ news), p.1 < h12.objs.size := fun p hp => Heap.lt_size (N12 p (.tail _ hp)).1
          have hqs' : NestsAt ((h12.objs.size, { cls := .type "list", data := .seq (ys.toList ++ [Value.ref DJ]).toArray }) :: (h11.objs.size, { cls := .type "list", data := .seq #[Value.ref DJ] }) :: (DJ, nestObj (jd da db) (jx xa xb) tJ uJ) :: (D, W.listOf ys nD) :: (R, W.listOf ws2 k2) :: (L' + 1 + 1 + 1, oi3) :: (L' + 1 + 1, oj2) :: (L' + 1, on) :: (l, W.listOf vs kl) :: (I2, it2) :: (I, it) :: (tl2 ++ news)) (ys.toList ++ [Value.ref DJ]) (restOf qs i j ++ [jn (da, xa) (db, xb)]) := by
            refine NestsAt.append ?_ ⟨⟨DJ, tJ, uJ, rfl, .tail _ (.tail _ (.head _))⟩, trivial⟩
            rw [eys]
            exact (hqs.rest i j).mono fun p hp => .tail _ (.tail _ (.tail _ (mem8 hp)))
          refine IH (n - 1) (by omega) (by omega) (cl := cellsFrom (L' + 1) _ []) (qs := restOf qs i j ++ [jn (da, xa) (db, xb)]) (vs := (ys.toList ++ [Value.ref DJ]).toArray) (kl := 0) B' F13 X' N13 T' rfl hb₂ (by dsimp only [ktrTop, Around.deeper]; omega) (by dsimp only [ktrTop, Around.deeper]; omega) ?_ (.head _) (by simpa using hqs') (by rw [szB_join (by rw [hql]; exact hn4) hi hea heb]; exact hsz) fun l3 ws3 k3 rs3 tl3 h14 tk14 gs14 hb14 F14 N14 hlt3 ml3 hws3 hrs3 hsz3 hpos3 => ?_
          · have e1 := restOf_length (l := qs) (by rw [hql]; exact hn4) hi hea heb
            rw [List.length_append, List.length_singleton]
            omega
          obtain ⟨sz1, sz2⟩ := szStep hn4 hj hi hwsz2 hsz3
          iterate 1 (first | (k_unfold; (try dsimp only)) | walk1 | (dsimp only; walk1))
          have memR : (R, W.listOf ws2 k2) ∈ (h12.objs.size, { cls := .type "list", data := .seq (ys.toList ++ [Value.ref DJ]).toArray }) :: (h11.objs.size, { cls := .type "list", data := .seq #[Value.ref DJ] }) :: (DJ, nestObj (jd da db) (jx xa xb) tJ uJ) :: (D, W.listOf ys nD) :: (R, W.listOf ws2 k2) :: (L' + 1 + 1 + 1, oi3) :: (L' + 1 + 1, oj2) :: (L' + 1, on) :: (l, W.listOf vs kl) :: (I2, it2) :: (I, it) :: (tl2 ++ news) := .tail _ (.tail _ (.tail _ (.tail _ (.head _))))
          have memI2 : (I2, it2) ∈ (h12.objs.size, { cls := .type "list", data := .seq (ys.toList ++ [Value.ref DJ]).toArray }) :: (h11.objs.size, { cls := .type "list", data := .seq #[Value.ref DJ] }) :: (DJ, nestObj (jd da db) (jx xa xb) tJ uJ) :: (D, W.listOf ys nD) :: (R, W.listOf ws2 k2) :: (L' + 1 + 1 + 1, oi3) :: (L' + 1 + 1, oj2) :: (L' + 1, on) :: (l, W.listOf vs kl) :: (I2, it2) :: (I, it) :: (tl2 ++ news) := by simp
          have memI : (I, it) ∈ (h12.objs.size, { cls := .type "list", data := .seq (ys.toList ++ [Value.ref DJ]).toArray }) :: (h11.objs.size, { cls := .type "list", data := .seq #[Value.ref DJ] }) :: (DJ, nestObj (jd da db) (jx xa xb) tJ uJ) :: (D, W.listOf ys nD) :: (R, W.listOf ws2 k2) :: (L' + 1 + 1 + 1, oi3) :: (L' + 1 + 1, oj2) :: (L' + 1, on) :: (l, W.listOf vs kl) :: (I2, it2) :: (I, it) :: (tl2 ++ news) := by simp
          have gR : ∀ p ∈ tl3, @LT.lt Nat _ R p.1 := fun p hp => hlt3 _ memR p hp
          have gI2 : ∀ p ∈ tl3, @LT.lt Nat _ I2 p.1 := fun p hp => hlt3 _ memI2 p hp
          have gI : ∀ p ∈ tl3, @LT.lt Nat _ I p.1 := fun p hp => hlt3 _ memI p hp
          have jR : @LT.lt Nat _ R DJ := hltJ (R, W.listOf ws2 k2) (by simp)
          have jI2 : @LT.lt Nat _ I2 DJ := hltJ (I2, it2) (by simp)
          have jI : @LT.lt Nat _ I DJ := hltJ (I, it) (by simp)
          have hR12 : @LT.lt Nat _ R h12.objs.size := hlt12 (R, W.listOf ws2 k2) (by simp)
          have N14' : News g L' h14 (tl3 ++ ([(h12.objs.size, { cls := .type "list", data := .seq (ys.toList ++ [Value.ref DJ]).toArray }), (h11.objs.size, { cls := .type "list", data := .seq #[Value.ref DJ] }), (DJ, nestObj (jd da db) (jx xa xb) tJ uJ), (D, W.listOf ys nD)] ++ (R, W.listOf ws2 k2) :: ((L' + 1 + 1 + 1, oi3) :: (L' + 1 + 1, oj2) :: (L' + 1, on) :: (l, W.listOf vs kl) :: (I2, it2) :: (I, it) :: (tl2 ++ news)))) := N14
          have ml3' : (l3, W.listOf ws3 k3) ∈ tl3 ++ ([(h12.objs.size, { cls := .type "list", data := .seq (ys.toList ++ [Value.ref DJ]).toArray }), (h11.objs.size, { cls := .type "list", data := .seq #[Value.ref DJ] }), (DJ, nestObj (jd da db) (jx xa xb) tJ uJ), (D, W.listOf ys nD)] ++ (R, W.listOf ws2 k2) :: ((L' + 1 + 1 + 1, oi3) :: (L' + 1 + 1, oj2) :: (L' + 1, on) :: (l, W.listOf vs kl) :: (I2, it2) :: (I, it) :: (tl2 ++ news))) := ml3
          have hws3' : NestsAt (tl3 ++ ([(h12.objs.size, { cls := .type "list", data := .seq (ys.toList ++ [Value.ref DJ]).toArray }), (h11.objs.size, { cls := .type "list", data := .seq #[Value.ref DJ] }), (DJ, nestObj (jd da db) (jx xa xb) tJ uJ), (D, W.listOf ys nD)] ++ (R, W.listOf ws2 k2) :: ((L' + 1 + 1 + 1, oi3) :: (L' + 1 + 1, oj2) :: (L' + 1, on) :: (l, W.listOf vs kl) :: (I2, it2) :: (I, it) :: (tl2 ++ news)))) ws3.toList rs3 := hws3
          have N15 : News g L' h14 ((R, W.listOf ws2 k2) :: (tl3 ++ ([(h12.objs.size, { cls := .type "list", data := .seq (ys.toList ++ [Value.ref DJ]).toArray }), (h11.objs.size, { cls := .type "list", data := .seq #[Value.ref DJ] }), (DJ, nestObj (jd da db) (jx xa xb) tJ uJ), (D, W.listOf ys nD)] ++ ((L' + 1 + 1 + 1, oi3) :: (L' + 1 + 1, oj2) :: (L' + 1, on) :: (l, W.listOf vs kl) :: (I2, it2) :: (I, it) :: (tl2 ++ news))))) := fun p hp => N14' p (insMem hp)
          have hRne : ∀ p ∈ tl3 ++ ([(h12.objs.size, { cls := .type "list", data := .seq (ys.toList ++ [Value.ref DJ]).toArray }), (h11.objs.size, { cls := .type "list", data := .seq #[Value.ref DJ] }), (DJ, nestObj (jd da db) (jx xa xb) tJ uJ), (D, W.listOf ys nD)] ++ ((L' + 1 + 1 + 1, oi3) :: (L' + 1 + 1, oj2) :: (L' + 1, on) :: (l, W.listOf vs kl) :: (I2, it2) :: (I, it) :: (tl2 ++ news))), p.1 ≠ R := fun p hp => by
            rcases List.mem_append.mp hp with hp | hp
            · exact Nat.ne_of_gt (gR p hp)
            rcases List.mem_cons.mp hp with rfl | hp
            · exact Nat.ne_of_gt hR12
            rcases List.mem_cons.mp hp with rfl | hp
            · exact Nat.ne_of_gt hR11
            rcases List.mem_cons.mp hp with rfl | hp
            · exact Nat.ne_of_gt jR
            rcases List.mem_cons.mp hp with rfl | hp
            · exact Ne.symm (hDne _ (.head _))
            rcases List.mem_cons.mp hp with rfl | hp
            · exact Nat.ne_of_lt hcR
            rcases List.mem_cons.mp hp with rfl | hp
            · exact Nat.ne_of_lt (Nat.lt_of_succ_lt hcR)
            rcases List.mem_cons.mp hp with rfl | hp
            · exact Nat.ne_of_lt (Nat.lt_of_succ_lt (Nat.lt_of_succ_lt hcR))
            rcases List.mem_cons.mp hp with rfl | hp
            · exact neN (by have := lw1; have := hcR; omega)
            rcases List.mem_cons.mp hp with rfl | hp
            · exact Nat.ne_of_gt (Nat.lt_trans i1 i2)
            rcases List.mem_cons.mp hp with rfl | hp
            · exact Nat.ne_of_gt i1
            · exact z3 p hp
          refine kl_extend F14 N15 (insMem' ml3') rfl (by simpa using Nat.ne_of_gt hpos3) (.head hRne) ?_ ?_ ?_ (fun h16 F16 N16 => ?_)
          · have : Builtin.List.listTooLong (ws2.size + ws3.size) = false := decide_eq_false (by rw [lineIs]; omega)
            rw [this, Bool.and_false]; exact Bool.false_ne_true
          · rw [lineIs, Array.length_toList]; omega
          · rw [lineIs]; omega
          refine wpAny_execs_nil ?_
          subst hZ2
          refine ⟨h16, _, gs14, fmW (.ref R) (some (.ref D)), (I, it) :: (L' + 1 + 1, oj2) :: (L' + 1 + 1 + 1, oi3) :: (R, W.listOf (ws2.toList ++ ws3.toList).toArray (k2 + 1)) :: (L' + 1, on) :: (l, W.listOf vs kl) :: ((tl3 ++ (DJ, nestObj (jd da db) (jx xa xb) tJ uJ) :: tl2) ++ news), rfl, hb14, F16, fun p hp => N16 p ?_, fun p hp => ?_, oi3, _, _, _, rs2 ++ rs3, tl3 ++ (DJ, nestObj (jd da db) (jx xa xb) tJ uJ) :: tl2, some (.ref D), rfl, rfl, di3, ?_, fun r hr => ?_, fun p hp => ?_, fun p hp => ?_, ?_, fun _ => ?_⟩
          · simp only [List.mem_cons, List.mem_append] at hp ⊢; grind
          · rcases List.mem_cons.mp hp with rfl | hp
            · exact Nat.ne_of_lt i2
            rcases List.mem_cons.mp hp with rfl | hp
            · exact neN (by omega)
            rcases List.mem_cons.mp hp with rfl | hp
            · exact neN (by omega)
            rcases List.mem_cons.mp hp with rfl | hp
            · exact neN (by omega)
            rcases List.mem_cons.mp hp with rfl | hp
            · exact neN (by omega)
            rcases List.mem_cons.mp hp with rfl | hp
            · exact neN (by omega)
            rcases List.mem_append.mp hp with hp | hp
            · rcases List.mem_append.mp hp with hp | hp
              · exact Nat.ne_of_gt (gI2 p hp)
              rcases List.mem_cons.mp hp with rfl | hp
              · exact Nat.ne_of_gt jI2
              · exact hoff2 p (by simp [hp])
            · exact hoff2 p (by simp [hp])
          · rw [List.toList_toArray]
            refine NestsAt.append (hws2.mono fun p hp => ?_) (hws3'.only fun p hp hne => ?_)
            · simp only [List.mem_cons, List.mem_append] at hp ⊢; grind
            · obtain ⟨d, x, t, u, e⟩ := hne
              rcases List.mem_append.mp hp with hp | hp
              · exact List.mem_append_left _ (List.mem_append_left _ hp)
              rcases List.mem_cons.mp hp with rfl | hp
              · exact absurd e notNestL
              rcases List.mem_cons.mp hp with rfl | hp
              · exact absurd e notNestL
              rcases List.mem_cons.mp hp with rfl | hp
              · exact List.mem_append_left _ (List.mem_append_right _ (.head _))
              rcases List.mem_cons.mp hp with rfl | hp
              · exact absurd e notNestL
              rcases List.mem_cons.mp hp with rfl | hp
              · exact absurd e notNestL
              rcases List.mem_cons.mp hp with rfl | hp
              · exact absurd e (notNestC di3)
              rcases List.mem_cons.mp hp with rfl | hp
              · exact absurd e (notNestC dj2)
              rcases List.mem_cons.mp hp with rfl | hp
              · exact absurd e (notNestC dn)
              rcases List.mem_cons.mp hp with rfl | hp
              · exact absurd e notNestL
              rcases List.mem_cons.mp hp with rfl | hp
              · exact absurd e (notNestI hitc2)
              rcases List.mem_cons.mp hp with rfl | hp
              · exact absurd e (notNestI hitc)
              rcases List.mem_append.mp hp with hp | hp
              · exact List.mem_append_left _ (List.mem_append_right _ (.tail _ hp))
              · exact List.mem_append_right _ hp
          · rcases List.mem_append.mp hr with hr | hr
            · exact hrs2 r hr
            · exact .join hi hea heb (hrs3 r hr)
          · rcases List.mem_append.mp hp with hp | hp
            · exact gR p hp
            rcases List.mem_cons.mp hp with rfl | hp
            · exact jR
            · exact htl2 p hp
          · rcases List.mem_append.mp hp with hp | hp
            · exact Nat.ne_of_gt (gI p hp)
            rcases List.mem_cons.mp hp with rfl | hp
            · exact Nat.ne_of_gt jI
            · exact hoffI2 p hp
          · simpa using sz1
          · simp; omega
      · clear hws hrs htl hoffI hwsz hpos di' z0 z1 N6 F6 hrg2 hoff
        rintro h tk' gs' _ _ hb₂ F7 N7 ⟨oi2, vi2, ws2, k2, rs2, tl2, oth2, rfl, rfl, di2, hws2, hrs2, htl2, hoffI2, hwsz2, hpos2⟩
        refine wpAny_execs_nil ?_
        subst hZ
        refine ⟨h, _, gs', _, (L' + 1 + 1, oj2) :: (L' + 1 + 1 + 1, oi2) :: (R, W.listOf ws2 k2) :: (L' + 1, on) :: (l, W.listOf vs kl) :: (tl2 ++ news), rfl, hb₂, F7, N7, fun p hp => ?_, oi2, oj2, _, _, ws2, k2, rs2, tl2, oth2, rfl, rfl, di2, dj2, hws2, hrs2, htl2, szOut hn4 hj hwsz2, fun h2 => hpos2 (.inr (by omega))⟩
        rcases List.mem_cons.mp hp with rfl | hp
        · exact neN (by omega)
        rcases List.mem_cons.mp hp with rfl | hp
        · exact neN (by omega)
        rcases List.mem_cons.mp hp with rfl | hp
        · exact neN (by omega)
        rcases List.mem_cons.mp hp with rfl | hp
        · exact neN (by omega)
        rcases List.mem_cons.mp hp with rfl | hp
        · exact neN (by omega)
        rcases List.mem_append.mp hp with hp | hp
        · exact hoffI2 p hp
        · exact neN (by have := hlow' p hp; omega)
    · rintro h tk' gs' _ _ hb₂ F4 N4 ⟨oi', oj', vi, vj, ws, k, rs, tl, oth, rfl, rfl, di', dj', hws, hrs, htl, hwsz, hpos⟩
      have hcR : @LT.lt Nat _ (L' + 1 + 1 + 1) R := hlt1.1
      have hn2 : 2 ≤ n := by omega
      clear F3 N3 hrg
      dsimp only
      k_steps
      rename Fr h₀ L _ _ => F9
      rename News h₀ L _ _ => N9
      refine ret R ws k rs ((R, W.listOf ws k) :: tl) _ _ _ hb₂ F9 (fun p hp => N9 p ?_) (fun q hq p hp => ?_) (.head _) (hws.mono fun p hp => .tail _ hp) hrs (Nat.le_trans hwsz (pow16n hn4 hn1)) (hpos hn2)
      · simp only [List.mem_cons, List.mem_append] at hp ⊢; grind
      · have hq1 := hlow' q hq
        rcases List.mem_cons.mp hp with rfl | hp
        · exact ltN (by omega)
        · have := htl p hp
          exact ltN (by omega)

theorem ways_ok : ∀ n, 1 ≤ n → n ≤ 4 → WaysOk n := by
  intro n
  induction n using Nat.strongRecOn with
  | ind n ih => exact fun h1 h4 => ways_step n h4 (fun k hk hk1 => ih k hk hk1 (Nat.le_trans (Nat.le_of_lt hk) h4)) h1
end Mine

-- part W1
namespace Mine
theorem startW1 : True := by
  w_top off
  trivial
theorem weights_rest {prog : Program} {w : World} {A : Around} {h₀ : Heap} {L ax : Addr} {m : Str → Option Value} {env : Env} {x₂ : Str} {c0 : Nat} {p1 p2 p3 : PySem.Pos} {scope : Scope} {cl : List (Str × Addr)} {s : Shared} {its : Array Value} {Fin : List Value → List (Addr × Obj) → Prop} {news : List (Addr × Obj)} {qs : List Nst}
    (hkind : scope.kind = .function) (hlk : scope.names.lookup (Str.ofString "depth") = some .local)
    (hqs : NestsAt news its.toList qs) (hb : ∀ q ∈ qs, 0 ≤ q.1 ∧ q.1 ≤ 100) (hS : LCg.SrcAt h₀ ax its news)
    (fin : ∀ ys, IntsAre ys (qs.map fun q => (2 : Int) ^ q.1.toNat) → Fin ys news) :
    ∀ (k i : Nat) (ys : List Value), i + k = qs.length → IntsAre ys ((qs.take i).map fun q => (2 : Int) ^ q.1.toNat) →
      LCp.CompRestP prog w A h₀ L m env (.BinOp (.Constant (.int 2) c0 p1) .Pow (.Name (Str.ofString "depth") p2) p3) (Str.ofString "depth") x₂ scope cl s (LCg.SrcAt h₀ ax its) (fun i v => its[i]? = some v) Fin k i ys news
  | 0, i, ys, hik, hys => LCp.CompRestP.zero (fin ys (by
      have : qs.take i = qs := List.take_of_length_le (by omega)
      rwa [this] at hys))
  | k + 1, i, ys, hik, hys => LCp.CompRestP.succ (fun v hv => by
      have hi : i < qs.length := by omega
      have hq : qs[i]? = some qs[i] := List.getElem?_eq_getElem hi
      have hbq := hb _ (List.getElem_mem hi)
      generalize qs[i] = q at hq hbq
      obtain ⟨v', hv', a, t, u, rfl, hm⟩ := hqs.get hq
      have hv2 : its.toList[i]? = some v := by rw [Array.getElem?_toList]; exact hv
      rw [hv2] at hv'
      obtain rfl := Option.some.inj hv'
      refine ⟨a, nestObj q.1 q.2 t u, .int q.1 t, .str q.2 u, _, rfl, hm, rfl, rfl, ?_⟩
      intro I oI C oC D m₂ h tk E' hoC hx hx2 F N off ne
      refine wpAny_BinOp (wpAny_Constant_int (wpAny_Name (wpAny_loadName_local hkind (lookup_relabel_local hlk) (hoC.ns (N (C, oC) (.tail _ (.head _))).1) hx ?_)))
      refine pow_int_small hbq.1 (by omega) (by decide) ?_
      refine ⟨h, _, news, rfl, F, N, off, hS, ?_⟩
      refine weights_rest hkind hlk hqs hb hS fin k (i + 1) (ys ++ [_]) (by omega) ?_
      rw [List.take_add_one, hq]
      simp only [Option.toList_some, List.map_append, List.map_cons, List.map_nil]
      exact hys.append (.cons _ _ .nil))
end Mine

-- part S1
namespace Mine
theorem startS1 : True := by
  w_top off
  trivial
def reachB (fs : List (Nat × Nat)) : Nat → Nat → Nat → Bool
  | 0, a, b => a == b
  | f + 1, a, b => a == b || fs.any fun p => p.1 == a && reachB fs f p.2 b
def ordB (fs : List (Nat × Nat)) : List Nat → Bool
  | [] => true
  | [_] => true
  | a :: b :: r => reachB fs 6 a b && ordB fs (b :: r)
def treeB (n : Nat) : List (Nat × Nat) → KasT (Array Nat) → Bool
  | fs, .ret p => ordB fs p.toList && p.toList.isPerm (List.range n)
  | fs, .ask i j k => decide (i < n) && decide (j < n) && treeB n ((i, j) :: fs) (k true) && treeB n ((j, i) :: fs) (k false)
theorem reachB_ok {d : Nat → Int} {fs : List (Nat × Nat)} (h : ∀ p ∈ fs, d p.1 ≤ d p.2) : ∀ (f a b : Nat), reachB fs f a b = true → d a ≤ d b
  | 0, a, b, e => by simp [reachB] at e; rw [e]; exact Int.le_refl _
  | f + 1, a, b, e => by
    simp only [reachB, Bool.or_eq_true, beq_iff_eq, List.any_eq_true, Bool.and_eq_true] at e
    rcases e with e | ⟨p, hp, e1, e2⟩
    · rw [e]; exact Int.le_refl _
    · have := h p hp
      have := reachB_ok h f _ _ e2
      rw [e1] at *; omega
def ordP (d : Nat → Int) : List Nat → Prop
  | [] => True
  | [_] => True
  | a :: b :: r => d a ≤ d b ∧ ordP d (b :: r)
theorem ordB_ok {d : Nat → Int} {fs : List (Nat × Nat)} (h : ∀ p ∈ fs, d p.1 ≤ d p.2) : ∀ (l : List Nat), ordB fs l = true → ordP d l
  | [], _ => trivial
  | [_], _ => trivial
  | a :: b :: r, e => by
    simp only [ordB, Bool.and_eq_true] at e
    exact ⟨reachB_ok h _ _ _ e.1, ordB_ok h (b :: r) e.2⟩
theorem tree_ok {d : Nat → Int} {n : Nat} {cmp : Nat → Nat → (Bool → Shared → Prop) → Shared → Prop} {St : Shared → Prop} {Q : Array Nat → Shared → Prop}
    (hc : ∀ i j C s, i < n → j < n → St s → (∀ b s', St s' → (b = true → d i ≤ d j) → (b = false → d j ≤ d i) → C b s') → cmp i j C s)
    (hQ : ∀ p s, St s → p.toList.Perm (List.range n) → ordP d p.toList → Q p s) :
    ∀ (t : KasT (Array Nat)) (fs : List (Nat × Nat)) (s : Shared), (∀ p ∈ fs, d p.1 ≤ d p.2) → St s → treeB n fs t = true → t.kasWp cmp Q s
  | .ret p, fs, s, hf, hs, e => by
    simp only [treeB, Bool.and_eq_true] at e
    exact hQ p s hs (List.isPerm_iff.mp e.2) (ordB_ok hf _ e.1)
  | .ask i j k, fs, s, hf, hs, e => by
    simp only [treeB, Bool.and_eq_true, decide_eq_true_eq] at e
    refine hc i j _ s e.1.1.1 e.1.1.2 hs fun b s' hs' h1 h2 => ?_
    cases b with
    | true => exact tree_ok hc hQ (k true) ((i, j) :: fs) s' (fun p hp => by
        rcases List.mem_cons.mp hp with rfl | hp
        · exact h1 rfl
        · exact hf p hp) hs' e.1.2
    | false => exact tree_ok hc hQ (k false) ((j, i) :: fs) s' (fun p hp => by
        rcases List.mem_cons.mp hp with rfl | hp
        · exact h2 rfl
        · exact hf p hp) hs' e.2
theorem tree2 : treeB 2 [] (kas_sort 2) = true := by decide +kernel
theorem tree3 : treeB 3 [] (kas_sort 3) = true := by decide +kernel
theorem tree4 : treeB 4 [] (kas_sort 4) = true := by decide +kernel
end Mine

-- part S2
namespace Mine
theorem startS2 : True := by
  w_top off
  trivial
theorem nest_lt {prog : Program} {w : World} {A : Around} {E : Value → Shared → Prop} {s : Shared} {h₀ : Heap} {L : Addr} {news : List (Addr × Obj)} {v v' : Value} {q q' : Nst} {C : Bool → Shared → Prop}
    (N : News h₀ L s.heap news) (h1 : NestAt news v q) (h2 : NestAt news v' q') (k : ∀ b, (b = true → q.1 ≤ q'.1) → (b = false → q'.1 ≤ q.1) → C b s) :
    wpAny (model prog w) A (keyLt' (tuples' true) v v') C E s := by
  obtain ⟨a, t, u, rfl, m1⟩ := h1
  obtain ⟨a', t', u', rfl, m2⟩ := h2
  refine kat_lt (N _ m1).1 rfl (N _ m2).1 rfl ?_
  refine kat_cons (wpAny_eqBool_int ?_)
  by_cases e : q.1 = q'.1
  · have e' : (q.1 == q'.1) = true := by simp [e]
    rw [e']
    refine kat_yes (kat_cons (wpAny_eqBool_str ?_))
    by_cases f : q.2 = q'.2
    · rw [decide_eq_true f]
      exact kat_yes (kat_nil (k _ (fun _ => by omega) fun _ => by omega))
    · rw [decide_eq_false f]
      refine kat_no (kat_one _ _ (lt_str ?_))
      exact k _ (fun _ => by omega) fun _ => by omega
  · have e' : (q.1 == q'.1) = false := by simp [e]
    rw [e']
    refine kat_no (oneLt_int ?_)
    refine k _ (fun h => ?_) fun h => ?_
    · have := of_decide_eq_true h; omega
    · have := of_decide_eq_false h; omega
def ordN : List Nst → Prop
  | [] => True
  | [_] => True
  | a :: b :: r => a.1 ≤ b.1 ∧ ordN (b :: r)
theorem ordP_map (d : Nat → Nst) : ∀ (l : List Nat), ordP (fun i => (d i).1) l → ordN (l.map d)
  | [], _ => trivial
  | [_], _ => trivial
  | a :: b :: r, e => ⟨e.1, ordP_map d (b :: r) e.2⟩
theorem ordN_le : ∀ (a : Nst) (r : List Nst), ordN (a :: r) → ∀ q ∈ r, a.1 ≤ q.1
  | _, [], _, _, hq => by cases hq
  | a, b :: r, e, q, hq => by
    rcases List.mem_cons.mp hq with rfl | hq
    · exact e.1
    · exact Int.le_trans e.1 (ordN_le b r e.2 q hq)
theorem NestsAt.firsts {news : List (Addr × Obj)} {h₀ h : Heap} {L : Addr} (N : News h₀ L h news) : ∀ {vs : List Value} {qs : List Nst}, NestsAt news vs qs → ∃ fs, KatTups h vs fs ∧ fs.length = qs.length ∧ ∀ v ∈ fs, ∃ d t, v = .int d t
  | [], [], _ => ⟨[], .nil, rfl, fun _ h => nomatch h⟩
  | _ :: _, q :: _, x => by
    obtain ⟨⟨a, t, u, rfl, m⟩, r⟩ := x
    obtain ⟨fs, h1, h2, h3⟩ := NestsAt.firsts N r
    refine ⟨.int q.1 t :: fs, .cons (N _ m).1 rfl rfl rfl h1, by simp [h2], fun v hv => ?_⟩
    rcases List.mem_cons.mp hv with rfl | hv
    · exact ⟨_, _, rfl⟩
    · exact h3 v hv
  | [], _ :: _, x => x.elim
  | _ :: _, [], x => x.elim
theorem NestsAt.getD {news : List (Addr × Obj)} {vs : List Value} {qs : List Nst} (h : NestsAt news vs qs) {i : Nat} (hi : i < qs.length) : NestAt news (vs.getD i .none) (qs.getD i (0, Str.ofString "")) := by
  obtain ⟨v, e, n⟩ := NestsAt.get h (List.getElem?_eq_getElem hi)
  rw [List.getD_eq_getElem?_getD, e, List.getD_eq_getElem?_getD, List.getElem?_eq_getElem hi]
  exact n
theorem NestsAt.map {news : List (Addr × Obj)} {f : Nat → Value} {g : Nat → Nst} : ∀ (l : List Nat), (∀ i ∈ l, NestAt news (f i) (g i)) → NestsAt news (l.map f) (l.map g)
  | [], _ => trivial
  | i :: r, h => ⟨h i (List.mem_cons_self ..), NestsAt.map r fun j hj => h j (List.mem_cons_of_mem _ hj)⟩
theorem rangeGetD (qs : List Nst) : (List.range qs.length).map (fun i => qs.getD i (0, Str.ofString "")) = qs := by
  apply List.ext_getElem
  · simp
  · intro i h1 h2
    simp [h2]
theorem nests_sorted {prog : Program} {w : World} {A : Around} {E : Value → Shared → Prop} {s : Shared} {h₀ : Heap} {L l : Addr} {m : Str → Option Value} {news : List (Addr × Obj)} {vs : Array Value} {kl : Nat} {qs : List Nst} {Q : Value → Shared → Prop}
    (F : Fr h₀ L s.heap m) (N : News h₀ L s.heap news) (hm : (l, W.listOf vs kl) ∈ news) (hn : NestsAt news vs.toList qs) (h2 : 2 ≤ qs.length) (h4 : qs.length ≤ 4)
    (k : ∀ D c ws rs h', Fr h₀ L h' m → News h₀ L h' ((D, W.listOf ws c) :: news) → NestsAt news ws.toList rs → rs.Perm qs → ordN rs → (∀ q ∈ news, q.1 < D) → Q (.ref D) { s with heap := h' }) :
    wpAny (model prog w) A (call (.builtin "sorted") [.ref l]) Q E s := by
  have hl := NestsAt.length hn
  refine kat_sorted (vs := vs.toList) F N ⟨_, (N _ hm).1, rfl, _, rfl⟩ (by omega) (by omega) fun D e1 h' F' N' hD => ?_
  have Nn : News h₀ L h' news := fun p hp => N' p (List.mem_cons_of_mem _ hp)
  obtain ⟨fs, t1, t2, t3⟩ := NestsAt.firsts Nn hn
  refine kat_kind (T := .type "int") t1 (by omega) (fun v hv => ?_) (by decide) ?_
  · obtain ⟨d, t, rfl⟩ := t3 v hv
    exact Looks.now
  have hb : ((Value.type "int") != Value.type "tuple") = true := by decide
  rw [hb]
  have ht : treeB qs.length [] (kas_sort vs.toList.length) = true := by
    rw [hl]
    have : qs.length = 2 ∨ qs.length = 3 ∨ qs.length = 4 := by omega
    rcases this with e | e | e <;> rw [e]
    · exact tree2
    · exact tree3
    · exact tree4
  refine tree_ok (d := fun i => (qs.getD i (0, Str.ofString "")).1) (n := qs.length) (St := fun s' => s' = { s with heap := h' }) (fun i j C s' hi hj hs kk => ?_) (fun p s' hs hp ho => ?_) _ [] _ (fun p hp => nomatch hp) rfl ht
  · subst hs
    exact nest_lt (s := { s with heap := h' }) Nn (hn.getD hi) (hn.getD hj) fun b b1 b2 => kk b _ rfl b1 b2
  · subst hs
    refine KasFin.intro F' N' (.head fun p hp => Nat.ne_of_lt (hD p hp)) fun h'' c F'' N'' => ?_
    refine k D c _ (p.toList.map fun i => qs.getD i (0, Str.ofString "")) h'' F'' N'' ?_ ?_ (ordP_map _ _ ho) hD
    · exact NestsAt.map _ fun i hi => hn.getD (List.mem_range.mp (hp.mem_iff.mp hi))
    · have := hp.map fun i => qs.getD i (0, Str.ofString "")
      rwa [rangeGetD] at this
end Mine

-- part L4
namespace Mine
theorem startL4 : True := by
  w_top off
  trivial
theorem fill8 (w : World) : Tag PySem.Challenge.rw_rl0016_01 (hd.heap_39 w.params = hd.heap_39 w.params) := by
  w_top off
  k_fill
  exact rfl
inductive Greedy : List Nst → Nst → Prop
  | one (q : Nst) : Greedy [q] q
  | step {qs rest : List Nst} {a b r : Nst} : (a :: b :: rest).Perm qs → a.1 ≤ b.1 → (∀ c ∈ rest, b.1 ≤ c.1) → Greedy (rest ++ [jn a b]) r → Greedy qs r
def fmN (v : Value) : Str → Option Value := fun y => if y = Str.ofString "nests" then some v else none
theorem szB_perm {l r : List Nst} (h : l.Perm r) : szB l = szB r := by
  unfold szB
  rw [h.length_eq, (h.map _).sum_nat]
theorem szB_two (a b : Nst) (rest : List Nst) : szB (rest ++ [jn a b]) = szB (a :: b :: rest) := by
  unfold szB jn
  simp [jx_len]
  omega
theorem plain_step {g h' : Heap} {L' D D1 DJ l' D2 l2 : Addr} {s : Shared} {news tl : List (Addr × Obj)} {qs rs qr : List Nst} {q1 q2 : Nst} {n tk : Nat} {tJ uJ : Tok} {o1 o2 o3 : Obj} {its wr : List Value}
    (F : Fr g L' h' (fun y => if y = Str.ofString "nests" then some (Value.ref D2) else if y = Str.ofString "nests" then some (Value.ref D) else fmN (Value.ref l2) y))
    (N : News g L' h' ((D2, W.listOf its.toArray 0) :: (l', o1) :: (DJ, nestObj (jd q1.1 q2.1) (jx q1.2 q2.2) tJ uJ) :: (D1, o2) :: (D, o3) :: (tl ++ news)))
    (e : its = wr ++ [.ref DJ]) (hqr : NestsAt (tl ++ news) wr qr) (hsl : (q1 :: q2 :: qr).length = n) (h4 : n ≤ 4) (hord : ordN (q1 :: q2 :: qr)) (hperm : (q1 :: q2 :: qr).Perm rs) (hsz : szB rs ≤ 100)
    (hlt : ∀ q ∈ news, ∀ p ∈ tl, q.1 < p.1) (hG : ∀ r, Greedy rs r → Greedy qs r) (hD : ∀ q ∈ tl ++ news, q.1 < D) (z1 : D < D1) (z2 : D < DJ) (z3 : D < l') (z4 : D < D2) :
    WhileStep g L' s (fun n m₁ news₁ => ∃ l vs kl rs tl, m₁ = fmN (.ref l) ∧ news₁ = tl ++ news ∧ (l, W.listOf vs kl) ∈ tl ++ news ∧ NestsAt (tl ++ news) vs.toList rs ∧ rs.length = n ∧ 1 ≤ n ∧ n ≤ 4 ∧ szB rs ≤ 100 ∧
      (∀ q ∈ news, ∀ p ∈ tl, q.1 < p.1) ∧ ∀ r, Greedy rs r → Greedy qs r) n .next { s with heap := h', toks := tk } := by
  subst e
  simp only [List.length_cons] at hsl
  have e1 : (fun y => if y = Str.ofString "nests" then some (Value.ref D2) else if y = Str.ofString "nests" then some (Value.ref D) else fmN (Value.ref l2) y) = fmN (.ref D2) := by
    funext y
    unfold fmN
    by_cases e : y = Str.ofString "nests" <;> simp [e]
  rw [e1] at F
  refine WhileStep.intro F N (n' := n - 1) (by omega) ⟨D2, _, 0, qr ++ [jn q1 q2], (D2, W.listOf (wr ++ [Value.ref DJ]).toArray 0) :: (l', o1) :: (DJ, nestObj (jd q1.1 q2.1) (jx q1.2 q2.2) tJ uJ) :: (D1, o2) :: (D, o3) :: tl, rfl, rfl, .head _, ?_, ?_, ?_, ?_, ?_, ?_, ?_⟩
  · exact NestsAt.append (hqr.mono fun p hp => .tail _ (.tail _ (.tail _ (.tail _ (.tail _ hp))))) ⟨⟨DJ, tJ, uJ, rfl, .tail _ (.tail _ (.head _))⟩, trivial⟩
  · simp only [List.length_append, List.length_singleton]; omega
  · omega
  · omega
  · rw [szB_two, szB_perm hperm]; exact hsz
  · intro q hq p hp
    have hqD : q.1 < D := hD q (List.mem_append.mpr (.inr hq))
    simp only [List.mem_cons] at hp
    rcases hp with rfl | rfl | rfl | rfl | rfl | hp
    · exact Nat.lt_trans hqD z4
    · exact Nat.lt_trans hqD z3
    · exact Nat.lt_trans hqD z2
    · exact Nat.lt_trans hqD z1
    · exact hqD
    · exact hlt q hq p hp
  · exact fun r hr => hG r (.step hperm hord.1 (ordN_le _ _ hord.2) hr)
theorem plain_call {w : World} {loose : List Str} {mean : ExcName → Option Value} {mg mb : Str → Option Value} {dp un : Nat} {gd : Option (List Code)} {cn : Str} {cs : Scope} {a : Addr} {ccd : Value} {cl : List (Str × Addr)} {outer : List Env} {A₀ : Around} {base h₀ : Heap} {L : Addr} {m : Str → Option Value} {news : List (Addr × Obj)} {s : Shared} {Q E : Value → Shared → Prop} {l : Addr} {vs : Array Value} {kl : Nat} {qs : List Nst}
    (B : Below A₀ base outer h₀) (F : Fr h₀ L s.heap m) (X : (hd.heap_39 w.params).In h₀) (N : News h₀ L s.heap news) (T : Top hd.view_39 loose mean mg mb h₀) (hk : cs.kind = .function)
    (hd : dp + 12 < recursionLimit) (hu : un + 128 < cLine) (h1 : 1 ≤ qs.length) (h4 : qs.length ≤ 4) (ml : (l, W.listOf vs kl) ∈ news) (hqs : NestsAt news vs.toList qs) (hsz : szB qs ≤ 100)
    (ret : ∀ v q tl h' tk', Fr h₀ L h' m → News h₀ L h' (tl ++ news) → (∀ q ∈ news, ∀ p ∈ tl, q.1 < p.1) → NestAt (tl ++ news) v q → Greedy qs q → Q v { s with heap := h', toks := tk' }) :
    wpAny (model theProg w) (ktrTop dp un gd cn cs L a ccd cl outer) (call (.ref 68) [.ref l]) Q E s := by
  refine wpAny_call ?_
  refine code_def (binds := [(Str.ofString "nests", .ref l)]) B F X N T rfl rfl hk (by k_is) (by k_is) (by dsimp only [ktrTop]; omega) (BindsTo.of_eq rfl) (locs rfl) (fun g L' h₁ FG F' N' B' X' T' => ?_) rfl rfl rfl (by decide)
  iterate 1 (first | (k_unfold; (try dsimp only)) | walk1 | (dsimp only; walk1))
  refine wpAny_execs_cons (While_inv (news := news) (n₀ := qs.length) (fun n m₁ news₁ => ∃ l vs kl rs tl, m₁ = fmN (.ref l) ∧ news₁ = tl ++ news ∧ (l, W.listOf vs kl) ∈ tl ++ news ∧ NestsAt (tl ++ news) vs.toList rs ∧ rs.length = n ∧ 1 ≤ n ∧ n ≤ 4 ∧ szB rs ≤ 100 ∧
      (∀ q ∈ news, ∀ p ∈ tl, q.1 < p.1) ∧ ∀ r, Greedy rs r → Greedy qs r) (by exact F') (by exact N') ⟨l, vs, kl, qs, [], ?_, rfl, ml, hqs, rfl, h1, h4, hsz, (fun _ _ _ h => nomatch h), fun _ h => h⟩ ?_ ?_)
  rotate_left 2
  · walk1
  · funext y
    show List.lookup y [(Str.ofString "nests", Value.ref l)] = _
    unfold fmN
    by_cases e : y = Str.ofString "nests"
    · subst e; simp
    · simp [e]
  rintro n _ _ h₂ tk₂ F2 N2 ⟨l2, vs2, kl2, rs, tl, rfl, rfl, ml2, hqs2, hrl, hn1, hn4, hsz2, hlt, hG⟩
  have hvl : vs2.size = n := by
    have := hqs2.length
    rw [hrl] at this
    simpa using this
  k_steps
  · rename 1 < (n : Int) => hn2
    refine nests_sorted F2 N2 ml2 hqs2 (by omega) (by omega) fun D c ws ss h3 F3 N3 hss hperm hord hlow => ?_
    have hsl : ss.length = n := hperm.length_eq.trans hrl
    obtain ⟨wl⟩ := ws
    dsimp only at hss
    match ss, wl, hss, hsl, hord, hperm with
    | q1 :: q2 :: qr, _ :: _ :: wr, ⟨⟨a1, t1, u1, rfl, m1⟩, ⟨a2, t2, u2, rfl, m2⟩, hqr⟩, hsl, hord, hperm => ?_
    | [q1], _, _, hsl, _, _ => exact absurd hsl (by simp; omega)
    | [], _, _, hsl, _, _ => exact absurd hsl (by simp; omega)
    have hwl : wr.length ≤ 2 := by have := hqr.length; simp at hsl; omega
    have hx1 : q1.2.length ≤ 100 := Nat.le_trans (szB_mem (hperm.mem_iff.mp (.head _))) hsz2
    have hx2 : q2.2.length ≤ 100 := Nat.le_trans (szB_mem (hperm.mem_iff.mp (.tail _ (.head _)))) hsz2
    match wr, hqr, hwl with
    | [], hqr, _ =>
      k_steps
      rename Fr g L' _ _ => F5
      rename News g L' _ _ => N5
      rename D < _ ∧ _ => l5
      refine joined_call (cl := []) (a1 := a1) (a2 := a2) (d1 := q1.1) (d2 := q2.1) (x1 := q1.2) (x2 := q2.2) B' F5 X' N5 T' rfl (by dsimp only [ktrTop, Around.deeper]; omega) (by dsimp only [ktrTop, Around.deeper]; omega) (.tail _ (.tail _ m1)) (.tail _ (.tail _ m2)) hx1 hx2 fun DJ tJ uJ h6 tk6 F6 N6 hltJ => ?_
      k_steps
      rename Fr g L' _ _ => F7
      rename News g L' _ _ => N7
      exact plain_step F7 N7 rfl hqr hsl hn4 hord hperm hsz2 hlt hG hlow l5.1 (hltJ (D, _) (.tail _ (.head _))) (by grind) (by grind)
    | [w1], hqr, _ =>
      k_steps
      rename Fr g L' _ _ => F5
      rename News g L' _ _ => N5
      rename D < _ ∧ _ => l5
      refine joined_call (cl := []) (a1 := a1) (a2 := a2) (d1 := q1.1) (d2 := q2.1) (x1 := q1.2) (x2 := q2.2) B' F5 X' N5 T' rfl (by dsimp only [ktrTop, Around.deeper]; omega) (by dsimp only [ktrTop, Around.deeper]; omega) (.tail _ (.tail _ m1)) (.tail _ (.tail _ m2)) hx1 hx2 fun DJ tJ uJ h6 tk6 F6 N6 hltJ => ?_
      k_steps
      rename Fr g L' _ _ => F7
      rename News g L' _ _ => N7
      exact plain_step F7 N7 rfl hqr hsl hn4 hord hperm hsz2 hlt hG hlow l5.1 (hltJ (D, _) (.tail _ (.head _))) (by grind) (by grind)
    | [w1, w2], hqr, _ =>
      k_steps
      rename Fr g L' _ _ => F5
      rename News g L' _ _ => N5
      rename D < _ ∧ _ => l5
      refine joined_call (cl := []) (a1 := a1) (a2 := a2) (d1 := q1.1) (d2 := q2.1) (x1 := q1.2) (x2 := q2.2) B' F5 X' N5 T' rfl (by dsimp only [ktrTop, Around.deeper]; omega) (by dsimp only [ktrTop, Around.deeper]; omega) (.tail _ (.tail _ m1)) (.tail _ (.tail _ m2)) hx1 hx2 fun DJ tJ uJ h6 tk6 F6 N6 hltJ => ?_
      k_steps
      rename Fr g L' _ _ => F7
      rename News g L' _ _ => N7
      exact plain_step F7 N7 rfl hqr hsl hn4 hord hperm hsz2 hlt hG hlow l5.1 (hltJ (D, _) (.tail _ (.head _))) (by grind) (by grind)
    | _ :: _ :: _ :: _, _, h => exact absurd h (by simp)
  · rename ¬ 1 < (n : Int) => hn2
    have h1n : n = 1 := by omega
    obtain ⟨q, rfl⟩ : ∃ q, rs = [q] := List.length_eq_one_iff.mp (hrl.trans h1n)
    obtain ⟨wl⟩ := vs2
    dsimp only at hqs2
    match wl, hqs2 with
    | [_], ⟨⟨a1, t1, u1, rfl, m1⟩, _⟩ => ?_
    refine my_item (v := .ref a1) ⟨_, (N2 _ ml2).1, rfl, _, rfl⟩ (by decide) (by decide) rfl ?_
    refine leaveK_ F2 N2 fun kF kN => ?_
    exact ret _ q tl _ _ kF kN hlt ⟨a1, t1, u1, rfl, m1⟩ (hG q (.one q))
end Mine

-- part P3
namespace Mine
theorem startP3 : True := by
  w_top off
  trivial
inductive Atom | O | C | E | Q | B
def isQ : Atom → Bool
  | .Q => true
  | _ => false
def Atom.text : Atom → List Nat
  | .O => [40] | .C => [41] | .E => [92, 41] | .Q => [34, 40, 34] | .B => [92, 92]
def flat (l : List Atom) : List Nat := l.flatMap Atom.text
def noQ (l : List Atom) : List Atom := l.filter (fun a => !(isQ a))
def runA : List Atom → Int → Option Int
  | [], o => some o
  | .O :: r, o => runA r (o + 1)
  | .C :: r, o => if o - 1 < 0 then none else runA r (o - 1)
  | _ :: r, o => runA r o
theorem runA_append : ∀ (a b : List Atom) (o : Int), runA (a ++ b) o = (runA a o).bind (runA b)
  | [], b, o => rfl
  | .O :: r, b, o => by simp only [List.cons_append, runA]; exact runA_append r b _
  | .C :: r, b, o => by
    simp only [List.cons_append, runA]
    by_cases h : o - 1 < 0
    · simp [h]
    · simp only [h, if_false]; exact runA_append r b _
  | .E :: r, b, o => by simp only [List.cons_append, runA]; exact runA_append r b _
  | .Q :: r, b, o => by simp only [List.cons_append, runA]; exact runA_append r b _
  | .B :: r, b, o => by simp only [List.cons_append, runA]; exact runA_append r b _
theorem runA_noQ : ∀ (a : List Atom) (o : Int), runA (noQ a) o = runA a o
  | [], o => rfl
  | .O :: r, o => runA_noQ r (o + 1)
  | .C :: r, o => by
    show (if o - 1 < 0 then none else runA (noQ r) (o - 1)) = (if o - 1 < 0 then none else runA r (o - 1))
    rw [runA_noQ r]
  | .E :: r, o => runA_noQ r o
  | .Q :: r, o => runA_noQ r o
  | .B :: r, o => runA_noQ r o
theorem chk_flat : ∀ (a : List Atom) (i : Nat) (o : Int), .Q ∉ a → (chkRun (toksOf false i (flat a)) o = true ↔ runA a o = some 0)
  | [], i, o, _ => by simp [flat, toksOf, chkRun, runA]
  | .O :: r, i, o, h => chk_flat r (i + 1) (o + 1) (fun q => h (.tail _ q))
  | .C :: r, i, o, h => by
    have := chk_flat r (i + 1) (o - 1) (fun q => h (.tail _ q))
    show (if o - 1 < 0 then false else chkRun (toksOf false (i + 1) (flat r)) (o - 1)) = true ↔ (if o - 1 < 0 then none else runA r (o - 1)) = some 0
    by_cases e : o - 1 < 0
    · simp [e]
    · simp only [e, if_false]; exact this
  | .E :: r, i, o, h => chk_flat r (i + 1 + 1) o (fun q => h (.tail _ q))
  | .Q :: r, i, o, h => absurd (.head _) h
  | .B :: r, i, o, h => chk_flat r (i + 1 + 1) o (fun q => h (.tail _ q))
theorem noQ_none (a : List Atom) : .Q ∉ noQ a := fun h => by
  have := (List.mem_filter.mp h).2
  simp [isQ] at this
def cat (l : List Str) : List Nat := l.flatMap fun x => x.cps.toList
end Mine

-- part P4
namespace Mine
theorem startP4 : True := by
  w_top off
  trivial
theorem strAppend (a b : Str) : (a ++ b).cps.toList = a.cps.toList ++ b.cps.toList := by
  show (a.cps ++ b.cps).toList = _
  simp
theorem join_cat : ∀ l : List Str, (Str.join (Str.ofString "") l).cps.toList = cat l
  | [] => rfl
  | [x] => by simp [Str.join, cat]
  | x :: y :: r => by
    have ih := join_cat (y :: r)
    show (x ++ Str.ofString "" ++ Str.join (Str.ofString "") (y :: r)).cps.toList = _
    rw [strAppend, strAppend, ih]
    have : (Str.ofString "").cps.toList = [] := by decide +kernel
    rw [this]
    simp [cat]
theorem txtJoin_cat (l : List Str) : (Txt.join (Str.ofString "") l).cps.toList = cat l := by
  rw [eq_of_beq (join_plain_closes (Str.ofString "") l)]
  exact join_cat l
theorem cat_snoc (l : List Str) (x : Str) : cat (l ++ [x]) = cat l ++ x.cps.toList := by simp [cat]
theorem strip_atoms (x : Str) : ∀ (as : List Atom) (pre : List Nat) (st : Nat) (res : List Str), x.cps.toList = pre ++ flat as → st ≤ pre.length →
    (stripRun x (toksOf false pre.length (flat as)) st none res).cps.toList = cat res ++ pre.drop st ++ flat (noQ as)
  | [], pre, st, res, e, h => by
    have ex : x.cps.toList = pre := by simpa [flat] using e
    have el : x.length = pre.length := by rw [← ex]; exact (Array.length_toList).symm
    show (Txt.join (Str.ofString "") (if (st : Int) < x.length then res ++ [Txt.slice x (some (st : Int)) none] else res)).cps.toList = _
    rw [txtJoin_cat]
    by_cases hs : (st : Int) < x.length
    · rw [if_pos hs, cat_snoc, slice_from_eq (b := x.length) (by omega) (by omega) rfl, ex]
      simp only [Int.toNat_natCast]
      rw [List.take_of_length_le (by simp; omega)]
      simp [noQ, isQ, flat]
    · rw [if_neg hs, List.drop_of_length_le (by omega)]
      simp [noQ, isQ, flat]
  | .O :: r, pre, st, res, e, h => by
    have ih := strip_atoms x r (pre ++ [40]) st res (by rw [e]; simp [flat, Atom.text]) (by simp; omega)
    rw [List.length_append, List.drop_append_of_le_length h] at ih
    refine Eq.trans (show _ = (stripRun x (toksOf false (pre.length + 1) (flat r)) st none res).cps.toList from rfl) (ih.trans ?_)
    simp [noQ, isQ, flat, Atom.text]
  | .C :: r, pre, st, res, e, h => by
    have ih := strip_atoms x r (pre ++ [41]) st res (by rw [e]; simp [flat, Atom.text]) (by simp; omega)
    rw [List.length_append, List.drop_append_of_le_length h] at ih
    refine Eq.trans (show _ = (stripRun x (toksOf false (pre.length + 1) (flat r)) st none res).cps.toList from rfl) (ih.trans ?_)
    simp [noQ, isQ, flat, Atom.text]
  | .E :: r, pre, st, res, e, h => by
    have ih := strip_atoms x r (pre ++ [92, 41]) st res (by rw [e]; simp [flat, Atom.text]) (by simp; omega)
    rw [List.length_append, List.drop_append_of_le_length h] at ih
    refine Eq.trans (show _ = (stripRun x (toksOf false (pre.length + 2) (flat r)) st none res).cps.toList from rfl) (ih.trans ?_)
    simp [noQ, isQ, flat, Atom.text]
  | .B :: r, pre, st, res, e, h => by
    have ih := strip_atoms x r (pre ++ [92, 92]) st res (by rw [e]; simp [flat, Atom.text]) (by simp; omega)
    rw [List.length_append, List.drop_append_of_le_length h] at ih
    refine Eq.trans (show _ = (stripRun x (toksOf false (pre.length + 2) (flat r)) st none res).cps.toList from rfl) (ih.trans ?_)
    simp [noQ, isQ, flat, Atom.text]
  | .Q :: r, pre, st, res, e, h => by
    have ih := strip_atoms x r (pre ++ [34, 40, 34]) (pre.length + 3) (if (st : Int) = ((pre.length : Nat) : Int) then res else res ++ [Txt.slice x (some (st : Int)) (some ((pre.length : Nat) : Int))]) (by rw [e]; simp [flat, Atom.text]) (by simp)
    rw [List.length_append] at ih
    refine Eq.trans (show _ = (stripRun x (toksOf false (pre.length + 3) (flat r)) (pre.length + 3) none (if (st : Int) = ((pre.length : Nat) : Int) then res else res ++ [Txt.slice x (some (st : Int)) (some ((pre.length : Nat) : Int))])).cps.toList from rfl) (ih.trans ?_)
    rw [List.drop_of_length_le (by simp)]
    have hlen : pre.length ≤ x.cps.toList.length := by rw [e]; simp
    have : cat (if (st : Int) = ((pre.length : Nat) : Int) then res else res ++ [Txt.slice x (some (st : Int)) (some ((pre.length : Nat) : Int))]) = cat res ++ pre.drop st := by
      by_cases hs : (st : Int) = ((pre.length : Nat) : Int)
      · rw [if_pos hs, List.drop_of_length_le (by omega)]; simp
      · rw [if_neg hs, cat_snoc, eq_of_beq (slice_closes ⟨by omega, by omega, by omega⟩), e]
        simp only [Int.toNat_natCast]
        have e2 : ((pre.length : Int) - (st : Int)).toNat = pre.length - st := by omega
        rw [e2, List.drop_append_of_le_length h, List.take_append_of_le_length (by simp), List.take_of_length_le (by simp)]
    rw [this]
    simp [noQ, isQ, flat]
end Mine

-- part P5
namespace Mine
theorem startP5 : True := by
  w_top off
  trivial
theorem noQ_self : ∀ (as : List Atom), 34 ∉ flat as → noQ as = as := fun as h => by
  unfold noQ
  rw [List.filter_eq_self]
  intro a ha
  have : a ≠ .Q := fun e => h (by
    subst e
    exact List.mem_flatMap.mpr ⟨.Q, ha, by decide⟩)
  cases a <;> first | rfl | exact absurd rfl this
theorem strip_flat (x : Str) (as : List Atom) (e : x.cps.toList = flat as) : (stripF x).cps.toList = flat (noQ as) := by
  unfold stripF
  by_cases h : 34 ∈ x.cps.toList
  · rw [if_pos h]
    have := strip_atoms x as [] 0 [] (by simpa using e) (by simp)
    rw [e]
    simpa [cat] using this
  · rw [if_neg h, e, noQ_self as (e ▸ h)]
theorem chk_atoms (x : Str) (as : List Atom) (e : x.cps.toList = flat as) : chkF x = true ↔ runA as 0 = some 0 := by
  unfold chkF
  rw [strip_flat x as e, chk_flat (noQ as) 0 0 (noQ_none as), runA_noQ]
def NestT (as : List Atom) (d : Int) : Prop := ∀ o, 0 ≤ o → runA as o = if d ≤ o then some o else none
def Good (q : Nst) : Prop := 0 ≤ q.1 ∧ ∃ as, q.2.cps.toList = flat as ∧ NestT as q.1
theorem runA_O : ∀ (n : Nat) (r : List Atom) (o : Int), runA (List.replicate n .O ++ r) o = runA r (o + n)
  | 0, r, o => by simp
  | n + 1, r, o => by
    rw [List.replicate_succ, List.cons_append]
    show runA (List.replicate n .O ++ r) (o + 1) = _
    rw [runA_O n r]
    congr 1
    omega
theorem runA_C : ∀ (n : Nat) (r : List Atom) (o : Int), 0 ≤ o → runA (List.replicate n .C ++ r) o = if (n : Int) ≤ o then runA r (o - n) else none
  | 0, r, o, h => by simp [h]
  | n + 1, r, o, h => by
    rw [List.replicate_succ, List.cons_append]
    show (if o - 1 < 0 then none else runA (List.replicate n .C ++ r) (o - 1)) = _
    by_cases h1 : o - 1 < 0
    · rw [if_pos h1, if_neg (by omega)]
    · rw [if_neg h1, runA_C n r (o - 1) (by omega)]
      by_cases h2 : (n : Int) ≤ o - 1
      · rw [if_pos h2, if_pos (by omega)]
        congr 1
        omega
      · rw [if_neg h2, if_neg (by omega)]
def Still (as : List Atom) : Prop := ∀ o, 0 ≤ o → runA as o = some o
theorem nest_base (d : Nat) (mid : List Atom) (hm : Still mid) : NestT (List.replicate d .C ++ mid ++ List.replicate d .O) d := fun o h => by
  rw [List.append_assoc, runA_C d _ o h]
  by_cases h2 : (d : Int) ≤ o
  · rw [if_pos h2, if_pos h2, runA_append, hm _ (by omega)]
    show runA (List.replicate d .O) (o - d) = some o
    have := runA_O d [] (o - d)
    rw [List.append_nil] at this
    rw [this]
    show some (o - d + d) = some o
    congr 1
    omega
  · rw [if_neg h2, if_neg h2]
theorem nest_join {a b : List Atom} {d e : Int} (ha : NestT a d) (hb : NestT b e) (hd : 0 ≤ d) (_he : 0 ≤ e) : NestT (.C :: (a ++ b ++ [.O])) (jd d e) := fun o h => by
  show (if o - 1 < 0 then none else runA (a ++ b ++ [.O]) (o - 1)) = _
  unfold jd
  by_cases h1 : o - 1 < 0
  · rw [if_pos h1, if_neg (by split <;> omega)]
  · rw [if_neg h1, runA_append, runA_append, ha _ (by omega)]
    by_cases h2 : d ≤ o - 1
    · rw [if_pos h2]
      show ((runA b (o - 1)).bind (runA [.O])) = _
      rw [hb _ (by omega)]
      by_cases h3 : e ≤ o - 1
      · rw [if_pos h3]
        show some (o - 1 + 1) = _
        rw [if_pos (by split <;> omega)]
        congr 1
        omega
      · rw [if_neg h3, if_neg (by split <;> omega)]; rfl
    · rw [if_neg h2, if_neg (by split <;> omega)]; rfl
theorem Good.join {a b : Nst} (ha : Good a) (hb : Good b) : Good (jn a b) := by
  obtain ⟨a0, as, ea, na⟩ := ha
  obtain ⟨b0, bs, eb, nb⟩ := hb
  refine ⟨?_, .C :: (as ++ bs ++ [.O]), ?_, nest_join na nb a0 b0⟩
  · show 0 ≤ jd a.1 b.1
    unfold jd
    split <;> omega
  · show (jx a.2 b.2).cps.toList = _
    unfold jx
    rw [strAppend, strAppend, strAppend, ea, eb]
    have e1 : (Str.ofString ")").cps.toList = [41] := by decide +kernel
    have e2 : (Str.ofString "(").cps.toList = [40] := by decide +kernel
    rw [e1, e2]
    simp [flat, Atom.text]
end Mine

-- part P6
namespace Mine
theorem startP6 : True := by
  w_top off
  trivial
def pw (q : Nst) : Nat := 2 ^ q.1.toNat
def wt (qs : List Nst) : Nat := (qs.map pw).sum
def Pos (qs : List Nst) : Prop := ∀ q ∈ qs, 0 ≤ q.1
theorem wt_perm {l r : List Nst} (h : l.Perm r) : wt l = wt r := (h.map pw).sum_nat
theorem pw_jn {a b : Nst} (ha : 0 ≤ a.1) (hb : 0 ≤ b.1) : pw a + pw b ≤ pw (jn a b) := by
  unfold pw jn jd
  dsimp only
  by_cases h : b.1 > a.1
  · rw [if_pos h]
    have e : (b.1 + 1).toNat = b.1.toNat + 1 := by omega
    rw [e, Nat.pow_succ]
    have : 2 ^ a.1.toNat ≤ 2 ^ b.1.toNat := Nat.pow_le_pow_right (by decide) (by omega)
    omega
  · rw [if_neg h]
    have e : (a.1 + 1).toNat = a.1.toNat + 1 := by omega
    rw [e, Nat.pow_succ]
    have : 2 ^ b.1.toNat ≤ 2 ^ a.1.toNat := Nat.pow_le_pow_right (by decide) (by omega)
    omega
theorem jn_pos {a b : Nst} (ha : 0 ≤ a.1) (hb : 0 ≤ b.1) : 0 ≤ (jn a b).1 := by
  unfold jn jd
  dsimp only
  split <;> omega
theorem pw_jn_le {a b : Nst} (ha : 0 ≤ a.1) (h : a.1 ≤ b.1) : pw (jn a b) = 2 * pw b := by
  unfold pw jn jd
  dsimp only
  have e : ((if b.1 > a.1 then b.1 else a.1) + 1).toNat = b.1.toNat + 1 := by split <;> omega
  rw [e, Nat.pow_succ]; omega
theorem wt_dvd {b : Nst} (hb : 0 ≤ b.1) : ∀ (l : List Nst), (∀ c ∈ l, b.1 ≤ c.1) → pw b ∣ wt l
  | [], _ => by simp [wt]
  | c :: r, h => by
    have ih := wt_dvd hb r fun c hc => h c (.tail _ hc)
    show pw b ∣ (pw c + wt r)
    refine Nat.dvd_add (Nat.pow_dvd_pow 2 ?_) ih
    have := h c (.head _)
    omega
theorem greedy_least {qs : List Nst} {r : Nst} (h : Greedy qs r) : Pos qs → 0 ≤ r.1 ∧ ∀ c : Nat, wt qs ≤ 2 ^ c → r.1 ≤ c := by
  induction h with
  | one q =>
    intro hp
    have h0 := hp q (.head _)
    refine ⟨h0, fun c hc => ?_⟩
    have e : wt [q] = 2 ^ q.1.toNat := by simp [wt, pw]
    rw [e] at hc
    have := (Nat.pow_le_pow_iff_right (by decide : 1 < 2)).mp hc
    omega
  | @step qs rest a b r hperm hab hrest _ ih =>
    intro hp
    have ha : 0 ≤ a.1 := hp a (hperm.mem_iff.mp (.head _))
    have hb : 0 ≤ b.1 := hp b (hperm.mem_iff.mp (.tail _ (.head _)))
    have hp' : Pos (rest ++ [jn a b]) := fun q hq => by
      rcases List.mem_append.mp hq with hq | hq
      · exact hp q (hperm.mem_iff.mp (.tail _ (.tail _ hq)))
      · rw [List.mem_singleton.mp hq]; exact jn_pos ha hb
    refine ⟨(ih hp').1, fun c hc => (ih hp').2 c ?_⟩
    have e1 : wt qs = pw a + (pw b + wt rest) := (wt_perm hperm).symm.trans rfl
    have e2 : wt (rest ++ [jn a b]) = wt rest + 2 * pw b := by
      rw [← pw_jn_le ha hab]; simp [wt]
    rw [e1] at hc
    rw [e2]
    have pa : 0 < pw a := Nat.pow_pos (by decide)
    have pb : 0 < pw b := Nat.pow_pos (by decide)
    obtain ⟨M, eM⟩ := wt_dvd hb rest hrest
    have hlt : pw b < 2 ^ c := by omega
    have hbc : b.1.toNat < c := (Nat.pow_lt_pow_iff_right (by decide : 1 < 2)).mp hlt
    obtain ⟨C, eC⟩ : pw b ∣ 2 ^ c := Nat.pow_dvd_pow 2 (by omega)
    rw [eM, eC] at hc ⊢
    have : pw b * (M + 1) < pw b * C := by rw [Nat.mul_add]; omega
    have : M + 1 < C := Nat.lt_of_mul_lt_mul_left this
    have : pw b * (M + 2) ≤ pw b * C := Nat.mul_le_mul_left _ this
    rw [Nat.mul_add] at this
    omega
end Mine

-- part P7
namespace Mine
theorem startP7 : True := by
  w_top off
  trivial
theorem bits_eq {W c : Nat} (h1 : 2 ^ c ≤ W) (h2 : W < 2 ^ (c + 1)) : Builtin.Int.intBits (W : Int) = c + 1 := by
  have a : Builtin.Int.intBits (W : Int) ≤ c + 1 := intBits_le_iff.mpr (by simpa using h2)
  have b : ¬ Builtin.Int.intBits (W : Int) ≤ c := fun h => by
    have := intBits_le_iff.mp h
    simp at this
    omega
  omega
theorem bitAnd_nat (a b : Nat) : Builtin.bitAnd (a : Int) (b : Int) = ((a &&& b : Nat) : Int) := by
  with_unfolding_all rfl
theorem land_pow (c : Nat) : 2 ^ c &&& (2 ^ c - 1) = 0 := by
  rw [Nat.and_two_pow_sub_one_eq_mod]; simp
theorem land_ne {W c : Nat} (h1 : 2 ^ c < W) (h2 : W < 2 ^ (c + 1)) : W &&& (W - 1) ≠ 0 := fun e => by
  have t1 : W.testBit c = true := by
    rw [Nat.testBit_eq_decide_div_mod_eq]
    have : W / 2 ^ c = 1 := Nat.div_eq_of_lt_le (by omega) (by rw [Nat.pow_succ] at h2; omega)
    simp [this]
  have t2 : (W - 1).testBit c = true := by
    rw [Nat.testBit_eq_decide_div_mod_eq]
    have : (W - 1) / 2 ^ c = 1 := Nat.div_eq_of_lt_le (by omega) (by rw [Nat.pow_succ] at h2; omega)
    simp [this]
  have : (W &&& (W - 1)).testBit c = true := by rw [Nat.testBit_and, t1, t2]; rfl
  rw [e] at this
  simp at this
theorem leastF_pow (c : Nat) : leastF ((2 ^ c : Nat) : Int) = c := by
  have hp : 0 < 2 ^ c := Nat.pow_pos (by decide)
  unfold leastF
  rw [bits_eq (Nat.le_refl _) (by rw [Nat.pow_succ]; omega)]
  have e : ((2 ^ c : Nat) : Int) - 1 = ((2 ^ c - 1 : Nat) : Int) := by omega
  rw [e, bitAnd_nat, land_pow]
  simp
theorem leastF_mid {W c : Nat} (h1 : 2 ^ c < W) (h2 : W < 2 ^ (c + 1)) : leastF (W : Int) = c + 1 := by
  unfold leastF
  rw [bits_eq (by omega) h2]
  have e : (W : Int) - 1 = ((W - 1 : Nat) : Int) := by omega
  rw [e, bitAnd_nat]
  have : ¬ ((((W &&& (W - 1) : Nat) : Int) == 0) = true) := fun h => land_ne h1 h2 (by simpa using h)
  rw [if_neg this]
  omega
theorem leastF_is {W c : Nat} (h1 : 2 ^ c < W) (h2 : W ≤ 2 ^ (c + 1)) : leastF (W : Int) = c + 1 := by
  by_cases e : W = 2 ^ (c + 1)
  · rw [e, leastF_pow]; omega
  · exact leastF_mid h1 (by omega)
theorem leastF_shift {W c : Nat} (h1 : 2 ^ c < W) (h2 : W ≤ 2 ^ (c + 1)) (k : Nat) : leastF ((W * 2 ^ k : Nat) : Int) = leastF (W : Int) + k := by
  rw [leastF_is h1 h2]
  have hp : 0 < 2 ^ k := Nat.pow_pos (by decide)
  rw [leastF_is (c := c + k)]
  · omega
  · rw [Nat.pow_add]; exact Nat.mul_lt_mul_of_pos_right h1 hp
  · rw [show c + k + 1 = c + 1 + k from by omega, Nat.pow_add]; exact Nat.mul_le_mul_right _ h2
end Mine

-- part P8
namespace Mine
theorem startP8 : True := by
  w_top off
  trivial
def AllGood (qs : List Nst) : Prop := ∀ q ∈ qs, Good q
theorem AllGood.pos {qs : List Nst} (h : AllGood qs) : Pos qs := fun q hq => (h q hq).1
theorem mem_restOf {qs : List Nst} {i j : Nat} {q : Nst} (h : q ∈ restOf qs i j) : q ∈ qs := by
  unfold restOf at h
  obtain ⟨k, _, e⟩ := List.mem_filterMap.mp h
  exact List.mem_of_getElem? e
theorem reach_facts {qs : List Nst} {r : Nst} (h : Reach qs r) : AllGood qs → qs.length ≤ 4 → Good r ∧ wt qs ≤ pw r ∧ r.2.length ≤ szB qs := by
  induction h with
  | one q => exact fun hg _ => ⟨hg q (.head _), by simp [wt], szB_mem (.head _)⟩
  | @join qs i j a b r hij ha hb _ ih =>
    intro hg h4
    have ga : Good a := hg a (List.mem_of_getElem? ha)
    have gb : Good b := hg b (List.mem_of_getElem? hb)
    have hl := restOf_length h4 hij ha hb
    obtain ⟨x1, x2, x3⟩ := ih (fun q hq => by
      rcases List.mem_append.mp hq with hq | hq
      · exact hg q (mem_restOf hq)
      · rw [List.mem_singleton.mp hq]; exact ga.join gb) (by simp; omega)
    refine ⟨x1, ?_, ?_⟩
    · have e := restOf_sum pw h4 hij ha hb
      have := pw_jn ga.1 gb.1
      have e2 : wt (restOf qs i j ++ [jn a b]) = ((restOf qs i j).map pw).sum + pw (jn a b) := by simp [wt]
      have e3 : wt qs = (qs.map pw).sum := rfl
      omega
    · rwa [szB_join h4 hij ha hb] at x3
theorem greedy_facts {qs : List Nst} {r : Nst} (h : Greedy qs r) : AllGood qs → Good r ∧ wt qs ≤ pw r ∧ r.2.length ≤ szB qs := by
  induction h with
  | one q => exact fun hg => ⟨hg q (.head _), by simp [wt], szB_mem (.head _)⟩
  | @step qs rest a b r hperm hab hrest _ ih =>
    intro hg
    have ga : Good a := hg a (hperm.mem_iff.mp (.head _))
    have gb : Good b := hg b (hperm.mem_iff.mp (.tail _ (.head _)))
    obtain ⟨x1, x2, x3⟩ := ih (fun q hq => by
      rcases List.mem_append.mp hq with hq | hq
      · exact hg q (hperm.mem_iff.mp (.tail _ (.tail _ hq)))
      · rw [List.mem_singleton.mp hq]; exact ga.join gb)
    refine ⟨x1, ?_, ?_⟩
    · have := pw_jn ga.1 gb.1
      have e2 : wt (rest ++ [jn a b]) = wt rest + pw (jn a b) := by simp [wt]
      have e1 : wt qs = pw a + (pw b + wt rest) := (wt_perm hperm).symm.trans rfl
      omega
    · rwa [szB_two, szB_perm hperm] at x3
theorem flat_append (a b : List Atom) : flat (a ++ b) = flat a ++ flat b := by simp [flat]
theorem flat_rep (a : Atom) (c : Nat) (h : a.text = [c]) : ∀ n, flat (List.replicate n a) = List.replicate n c
  | 0 => rfl
  | n + 1 => by
    rw [List.replicate_succ, List.replicate_succ, ← flat_rep a c h n]
    simp [flat, h]
theorem good_chk {q : Nst} (g : Good q) (d : Nat) (x : Str) (e : x.cps.toList = List.replicate d 40 ++ q.2.cps.toList ++ List.replicate d 41) : chkF x = decide (q.1 ≤ d) := by
  obtain ⟨_, as, ea, na⟩ := g
  have hx := chk_atoms x (List.replicate d .O ++ as ++ List.replicate d .C) (by
    rw [e, flat_append, flat_append, flat_rep .O 40 rfl, flat_rep .C 41 rfl, ea])
  rw [List.append_assoc, runA_O, runA_append, na _ (by omega)] at hx
  rw [Bool.eq_iff_iff, hx, decide_eq_true_eq]
  by_cases h : q.1 ≤ (d : Int)
  · rw [if_pos (by omega)]
    have := runA_C d [] (0 + d) (by omega)
    rw [List.append_nil, if_pos (by omega)] at this
    have e2 : (some (0 + (d : Int))).bind (runA (List.replicate d .C)) = some 0 := by
      show runA (List.replicate d .C) (0 + d) = some 0
      rw [this]
      show some (0 + (d : Int) - d) = some 0
      congr 1
      omega
    simp only [e2, h]
  · rw [if_neg (by omega)]
    simp [h]
end Mine

-- part F1
namespace Mine
theorem startF1 : True := by
  w_top off
  trivial
def midS (k : Int) : Str := if k = 0 then Str.ofString "" else if k = 1 then Str.ofString "\\)" else if k = 2 then Str.ofString "\"(\"" else Str.ofString "\\\\"
def nb (x : Int) : Nst := (x.fmod 4, Txt.mul (Str.ofString ")") (x.fmod 4) ++ midS ((x.fdiv 4).fmod 4) ++ Txt.mul (Str.ofString "(") (x.fmod 4))
theorem midS_len (k : Int) : (midS k).length ≤ 3 := by
  unfold midS
  split
  · decide +kernel
  split
  · decide +kernel
  split
  · decide +kernel
  · decide +kernel
theorem mid_item (k : Int) (h0 : 0 ≤ k) (h4 : k < 4) (t0 t1 t2 t3 : Tok) : ∃ u, (#[Value.str (Str.ofString "") t0, Value.str (Str.ofString "\\)") t1, Value.str (Str.ofString "\"(\"") t2, Value.str (Str.ofString "\\\\") t3] : Array Value)[k.toNat]? = some (.str (midS k) u) := by
  have : k = 0 ∨ k = 1 ∨ k = 2 ∨ k = 3 := by omega
  rcases this with rfl | rfl | rfl | rfl
  · exact ⟨t0, rfl⟩
  · exact ⟨t1, rfl⟩
  · exact ⟨t2, rfl⟩
  · exact ⟨t3, rfl⟩
theorem fmod4 (x : Int) : 0 ≤ x.fmod 4 ∧ x.fmod 4 < 4 := ⟨Int.fmod_nonneg_of_pos _ (by decide), Int.fmod_lt_of_pos _ (by decide)⟩
theorem ofO : Str.ofString "(" = ⟨#[40]⟩ := by decide +kernel
theorem ofC : Str.ofString ")" = ⟨#[41]⟩ := by decide +kernel
theorem midS_atoms (k : Int) : ∃ mid, (midS k).cps.toList = flat mid ∧ Still mid := by
  unfold midS
  split
  · exact ⟨[], by decide +kernel, fun _ _ => rfl⟩
  split
  · exact ⟨[.E], by decide +kernel, fun _ _ => rfl⟩
  split
  · exact ⟨[.Q], by decide +kernel, fun _ _ => rfl⟩
  · exact ⟨[.B], by decide +kernel, fun _ _ => rfl⟩
theorem nb_list (x : Int) : ∃ d : Nat, x.fmod 4 = (d : Int) ∧ d ≤ 3 ∧ (nb x).2.cps.toList = List.replicate d 41 ++ (midS ((x.fdiv 4).fmod 4)).cps.toList ++ List.replicate d 40 := by
  obtain ⟨h0, h4⟩ := fmod4 x
  obtain ⟨d, hd⟩ := Int.eq_ofNat_of_zero_le h0
  refine ⟨d, hd, by omega, ?_⟩
  unfold nb
  dsimp only
  rw [strAppend, strAppend, ofO, ofC, mul_one_list, mul_one_list, hd, Int.toNat_natCast]
theorem nb_good (x : Int) : Good (nb x) := by
  obtain ⟨d, hd, _, hl⟩ := nb_list x
  obtain ⟨mid, hm, hs⟩ := midS_atoms ((x.fdiv 4).fmod 4)
  have e : (nb x).1 = (d : Int) := hd
  refine ⟨by rw [e]; exact Int.natCast_nonneg d, List.replicate d .C ++ mid ++ List.replicate d .O, ?_, by rw [e]; exact nest_base d mid hs⟩
  rw [hl, hm, flat_append, flat_append, flat_rep .C 41 rfl, flat_rep .O 40 rfl]
theorem nb_len (x : Int) : (nb x).2.length ≤ 9 := by
  obtain ⟨d, _, h3, hl⟩ := nb_list x
  have := midS_len ((x.fdiv 4).fmod 4)
  have e : (nb x).2.length = (nb x).2.cps.toList.length := (Array.length_toList).symm
  have e2 : (midS ((x.fdiv 4).fmod 4)).length = (midS ((x.fdiv 4).fmod 4)).cps.toList.length := (Array.length_toList).symm
  rw [e, hl, List.length_append, List.length_append, List.length_replicate, List.length_replicate]
  omega
theorem nb_deep (x : Int) : 0 ≤ (nb x).1 ∧ (nb x).1 ≤ 3 := by
  have := fmod4 x
  show 0 ≤ x.fmod 4 ∧ x.fmod 4 ≤ 3
  omega
def Base (qs : List Nst) : Prop := 3 ≤ qs.length ∧ qs.length ≤ 4 ∧ AllGood qs ∧ (∀ q ∈ qs, 0 ≤ q.1 ∧ q.1 ≤ 3 ∧ q.2.length ≤ 9)
theorem base_of {xs : List Int} (h3 : 3 ≤ xs.length) (h4 : xs.length ≤ 4) : Base (xs.map nb) := by
  refine ⟨by simpa using h3, by simpa using h4, fun q hq => ?_, fun q hq => ?_⟩
  · obtain ⟨x, _, rfl⟩ := List.mem_map.mp hq
    exact nb_good x
  · obtain ⟨x, _, rfl⟩ := List.mem_map.mp hq
    exact ⟨(nb_deep x).1, (nb_deep x).2, nb_len x⟩
theorem sum_le {f : Nst → Nat} {b : Nat} : ∀ {qs : List Nst}, (∀ q ∈ qs, f q ≤ b) → (qs.map f).sum ≤ qs.length * b
  | [], _ => by simp
  | q :: qs, h => by
    have := sum_le (f := f) (b := b) (qs := qs) fun p hp => h p (.tail _ hp)
    have := h q (.head _)
    rw [List.map_cons, List.sum_cons, List.length_cons, Nat.add_mul]
    omega
theorem sum_ge {f : Nst → Nat} : ∀ {qs : List Nst}, (∀ q ∈ qs, 1 ≤ f q) → qs.length ≤ (qs.map f).sum
  | [], _ => by simp
  | q :: qs, h => by
    have := sum_ge (f := f) (qs := qs) fun p hp => h p (.tail _ hp)
    have := h q (.head _)
    rw [List.map_cons, List.sum_cons, List.length_cons]
    omega
theorem Base.sz {qs : List Nst} (h : Base qs) : szB qs ≤ 100 := by
  have := sum_le (f := fun q : Nst => q.2.length) (b := 9) fun q hq => (h.2.2.2 q hq).2.2
  have h4 := h.2.1
  unfold szB
  omega
theorem Base.wt {qs : List Nst} (h : Base qs) : 3 ≤ wt qs ∧ wt qs ≤ 32 := by
  have h1 := sum_ge (f := pw) (qs := qs) fun q _ => Nat.pow_pos (by decide)
  have h2 := sum_le (f := pw) (b := 8) (qs := qs) fun q hq => by
    have := h.2.2.2 q hq
    show 2 ^ q.1.toNat ≤ 2 ^ 3
    exact Nat.pow_le_pow_right (by decide) (by omega)
  have h3 := h.1
  have h4 := h.2.1
  unfold Mine.wt
  omega
def dsum (qs : List Nst) : Nat := (qs.map fun q => q.1.toNat + 1).sum
theorem jn_deep (a b : Nst) : (jn a b).1.toNat + 1 ≤ (a.1.toNat + 1) + (b.1.toNat + 1) := by
  unfold jn jd
  dsimp only
  split <;> omega
theorem reach_deep {qs : List Nst} {r : Nst} (h : Reach qs r) : qs.length ≤ 4 → r.1.toNat + 1 ≤ dsum qs := by
  induction h with
  | one q => exact fun _ => by simp [dsum]
  | @join qs i j a b r hij ha hb _ ih =>
    intro h4
    have hl := restOf_length h4 hij ha hb
    have x := ih (by simp; omega)
    have e := restOf_sum (fun q : Nst => q.1.toNat + 1) h4 hij ha hb
    have e2 : dsum (restOf qs i j ++ [jn a b]) = ((restOf qs i j).map fun q : Nst => q.1.toNat + 1).sum + ((jn a b).1.toNat + 1) := by simp [dsum]
    have e3 : dsum qs = (qs.map fun q : Nst => q.1.toNat + 1).sum := rfl
    have := jn_deep a b
    omega
theorem greedy_deep {qs : List Nst} {r : Nst} (h : Greedy qs r) : r.1.toNat + 1 ≤ dsum qs := by
  induction h with
  | one q => simp [dsum]
  | @step qs rest a b r hperm hab hrest _ ih =>
    have e2 : dsum (rest ++ [jn a b]) = (rest.map fun q : Nst => q.1.toNat + 1).sum + ((jn a b).1.toNat + 1) := by simp [dsum]
    have e1 : dsum qs = (a.1.toNat + 1) + ((b.1.toNat + 1) + (rest.map fun q : Nst => q.1.toNat + 1).sum) := ((hperm.map fun q : Nst => q.1.toNat + 1).sum_nat).symm.trans rfl
    have := jn_deep a b
    omega
theorem Base.deep {qs : List Nst} (h : Base qs) : dsum qs ≤ 16 := by
  have := sum_le (f := fun q : Nst => q.1.toNat + 1) (b := 4) (qs := qs) fun q hq => by
    have := h.2.2.2 q hq
    omega
  have h4 := h.2.1
  unfold dsum
  omega
theorem between {W : Nat} (h : 3 ≤ W) : ∃ c, 1 ≤ c ∧ 2 ^ c < W ∧ W ≤ 2 ^ (c + 1) := by
  have h1 : 2 ^ (W - 1).log2 ≤ W - 1 := Nat.log2_self_le (by omega)
  have h2 : W - 1 < 2 ^ ((W - 1).log2 + 1) := Nat.lt_log2_self
  refine ⟨(W - 1).log2, ?_, by omega, by omega⟩
  rcases Nat.eq_zero_or_pos (W - 1).log2 with e | e
  · rw [e] at h2
    omega
  · exact e
theorem least_le {W c : Nat} {r : Nst} (hr : 0 ≤ r.1) (h1 : 2 ^ c < W) (hp : W ≤ pw r) : (c : Int) + 1 ≤ r.1 := by
  have : 2 ^ c < 2 ^ r.1.toNat := Nat.lt_of_lt_of_le h1 hp
  have := (Nat.pow_lt_pow_iff_right (by decide : 1 < 2)).mp this
  omega
theorem Base.two {qs : List Nst} (h : Base qs) : 2 ≤ leastF ((Mine.wt qs : Nat) : Int) := by
  obtain ⟨c, h1, h2, h3⟩ := between h.wt.1
  rw [leastF_is h2 h3]
  omega
theorem Base.reach {qs : List Nst} {r : Nst} (h : Base qs) (hr : Reach qs r) : leastF ((Mine.wt qs : Nat) : Int) ≤ r.1 ∧ Good r ∧ r.1 ≤ 20 ∧ r.2.length ≤ 100 := by
  obtain ⟨c, h1, h2, h3⟩ := between h.wt.1
  obtain ⟨x1, x2, x3⟩ := reach_facts hr h.2.2.1 h.2.1
  rw [leastF_is h2 h3]
  have := reach_deep hr h.2.1
  have := h.deep
  exact ⟨least_le x1.1 h2 x2, x1, by omega, Nat.le_trans x3 h.sz⟩
theorem Base.greedy {qs : List Nst} {r : Nst} (h : Base qs) (hr : Greedy qs r) : leastF ((Mine.wt qs : Nat) : Int) ≤ r.1 ∧ Good r ∧ r.1 ≤ 20 ∧ r.2.length ≤ 100 := by
  obtain ⟨c, h1, h2, h3⟩ := between h.wt.1
  obtain ⟨x1, x2, x3⟩ := greedy_facts hr h.2.2.1
  rw [leastF_is h2 h3]
  have := greedy_deep hr
  have := h.deep
  exact ⟨least_le x1.1 h2 x2, x1, by omega, Nat.le_trans x3 h.sz⟩
theorem Base.plain {qs : List Nst} {r : Nst} (h : Base qs) (hr : Greedy qs r) : r.1 = leastF ((Mine.wt qs : Nat) : Int) := by
  have h0 := (h.greedy hr).1
  obtain ⟨c, h1, h2, h3⟩ := between h.wt.1
  have := (greedy_least hr h.2.2.1.pos).2 (c + 1) h3
  rw [leastF_is h2 h3] at h0 ⊢
  omega
theorem Base.shift {qs : List Nst} (h : Base qs) {dd : Int} (hd : 0 ≤ dd) : leastF (((Mine.wt qs : Nat) : Int) * 2 ^ dd.toNat) = leastF ((Mine.wt qs : Nat) : Int) + dd := by
  obtain ⟨c, h1, h2, h3⟩ := between h.wt.1
  obtain ⟨k, rfl⟩ := Int.eq_ofNat_of_zero_le hd
  rw [Int.toNat_natCast, ← leastF_shift h2 h3 k]
  congr 1
theorem Base.all {qs rs : List Nst} {q : Nst} (h : Base qs) (hrs : ∀ r ∈ rs, Reach qs r) (hq : Greedy qs q) : ∀ r ∈ rs ++ [q], leastF ((Mine.wt qs : Nat) : Int) ≤ r.1 ∧ Good r ∧ r.1 ≤ 20 ∧ r.2.length ≤ 100 := fun r hr => by
  rcases List.mem_append.mp hr with hr | hr
  · exact h.reach (hrs r hr)
  · rw [List.mem_singleton.mp hr]
    exact h.greedy hq
end Mine

-- part X1
namespace Mine
theorem startX1 : True := by
  w_top off
  trivial
local macro_rules | `(tactic| k_all) => `(tactic| assumption)

def fmA (nums nests : Value) (x : Option Value) : Str → Option Value := fun y =>
  if y = Str.ofString "x" then x else if y = Str.ofString "nests" then some nests else if y = Str.ofString "numbers" then some nums else none
theorem fmA_x (nums nests : Value) (x x' : Option Value) : (fun y => if y = Str.ofString "x" then x' else fmA nums nests x y) = fmA nums nests x' := by
  funext y
  unfold fmA
  by_cases h : y = Str.ofString "x"
  · rw [if_pos h, if_pos h]
  · rw [if_neg h, if_neg h, if_neg h]
theorem fmA_start (nums nests : Value) : (fun y => if y = Str.ofString "nests" then some nests else if y = Str.ofString "numbers" then some nums else (fun _ => none) y) = fmA nums nests none := by
  funext y
  unfold fmA
  by_cases h : y = Str.ofString "x"
  · subst h; rfl
  · rw [if_neg h]
def fmB (nums nests : Value) (x : Option Value) (W l dp : Value) (d t : Option Value) : Str → Option Value := fun y =>
  if y = Str.ofString "text" then t else if y = Str.ofString "depth" then d else if y = Str.ofString "least" then some l else if y = Str.ofString "deeper" then some dp else if y = Str.ofString "weight" then some W else fmA nums nests x y
theorem fmB_dt (nums nests : Value) (x : Option Value) (W l dp : Value) (d t d' t' : Option Value) : (fun y => if y = Str.ofString "text" then t' else if y = Str.ofString "depth" then d' else fmB nums nests x W l dp d t y) = fmB nums nests x W l dp d' t' := by
  funext y
  unfold fmB
  by_cases h : y = Str.ofString "text"
  · rw [if_pos h, if_pos h]
  by_cases h2 : y = Str.ofString "depth"
  · subst h2; rfl
  · rw [if_neg h, if_neg h, if_neg h2, if_neg h2, if_neg h, if_neg h2]
theorem fmB_start (nums nests : Value) (x : Option Value) (W l dp : Value) : (fun y => if y = Str.ofString "least" then some l else if y = Str.ofString "deeper" then some dp else if y = Str.ofString "weight" then some W else fmA nums nests x y) = fmB nums nests x W l dp none none := by
  funext y
  unfold fmB
  by_cases h : y = Str.ofString "text"
  · subst h; rfl
  by_cases h2 : y = Str.ofString "depth"
  · subst h2; rfl
  · rw [if_neg h, if_neg h2]
theorem sum_wt : ∀ qs : List Nst, (qs.map fun q => (2 : Int) ^ q.1.toNat).sum = ((wt qs : Nat) : Int)
  | [] => rfl
  | q :: qs => by
    have := sum_wt qs
    have e : wt (q :: qs) = pw q + wt qs := rfl
    rw [List.map_cons, List.sum_cons, this, e]
    unfold pw
    push_cast
    rfl
theorem NestsAt.atV {led : List (Addr × Obj)} : ∀ {vs : List Value} {qs : List Nst} {i : Nat} {v : Value}, NestsAt led vs qs → vs[i]? = some v → ∃ q ∈ qs, NestAt led v q
  | [], [], _, _, _, h => by cases h
  | v :: _, q :: _, 0, _, x, h => ⟨q, .head _, by cases h; exact x.1⟩
  | _ :: _, _ :: _, i + 1, _, x, h =>
    let ⟨q, hq, hn⟩ := NestsAt.atV (i := i) x.2 (by simpa using h)
    ⟨q, .tail _ hq, hn⟩
  | [], _ :: _, _, _, x, _ => x.elim
  | _ :: _, [], _, _, x, _ => x.elim
theorem assign_pair {prog : Program} {w : World} {A : Around} {E : Value → Shared → Prop} {s : Shared} {env : Env} {h₀ : Heap} {news : List (Addr × Obj)} {a b : Str} {pa pb tp : PySem.Pos} {kk : Nat} {T : Addr} {x y : Value} {m : Str → Option Value} {Q : Unit → Shared → Prop}
    (hh : A.handled = none) (F : Fr h₀ env.locals s.heap m) (N : News h₀ env.locals s.heap news) (ht : s.heap.IsTuple T #[x, y])
    (ha : env.kindOf a = some .local) (hb : env.kindOf b = some .local) (hp : (env.scope.kind == .class || (env.scope.kind == .module && env.locals != env.globals)) = false)
    (h : ∀ (h' : Heap) (tk : Nat), Fr h₀ env.locals h' (fun z => if z = b then some y else if z = a then some x else m z) → News h₀ env.locals h' news → Q () { s with heap := h', toks := tk }) :
    wpAny (model prog w) A (assign (.Tuple [.Name a pa, .Name b pb] kk tp) env (.ref T)) Q E s :=
  kcp_assign hh ht ha hb hp F.ns fun h' tk hn hs => h h' tk
    ⟨hn, fun c o e => hs c o (fun q => by rw [q, Heap.get?_none_of_le F.above] at e; cases e) (F.keep c o e), F.above⟩
    (fun p hp => ⟨hs _ _ (N p hp).2.1 (N p hp).1, (N p hp).2⟩)
def wr (d : Int) (x : Str) : Str := Txt.mul (Str.ofString "(") d ++ x ++ Txt.mul (Str.ofString ")") d
theorem wr_list (d : Nat) (x : Str) : (wr d x).cps.toList = List.replicate d 40 ++ x.cps.toList ++ List.replicate d 41 := by
  have e1 : Str.ofString "(" = ⟨#[40]⟩ := by decide +kernel
  have e2 : Str.ofString ")" = ⟨#[41]⟩ := by decide +kernel
  unfold wr
  rw [strAppend, strAppend, e1, e2, mul_one_list, mul_one_list, Int.toNat_natCast]
theorem wr_len (d : Nat) (x : Str) : (wr d x).length = d + x.length + d := by
  show (wr d x).cps.size = _
  have e : x.length = x.cps.size := rfl
  rw [← Array.length_toList, wr_list]
  simp
  omega
theorem wr_chk {q : Nst} (g : Good q) {d : Int} (h : 0 ≤ d) : chkF (wr d q.2) = decide (q.1 ≤ d) := by
  obtain ⟨k, rfl⟩ := Int.eq_ofNat_of_zero_le h
  exact good_chk g k _ (wr_list k q.2)
theorem wr_size {d : Int} {x : Str} (h0 : 0 ≤ d) (h : d ≤ 20) (hx : x.length ≤ 100) : (wr d x).length ≤ 200 := by
  obtain ⟨k, rfl⟩ := Int.eq_ofNat_of_zero_le h0
  rw [wr_len]
  omega
theorem ite_no {c : Prop} [Decidable c] {P Q : Prop} (h : ¬ c) (q : Q) : if c then P else Q := by
  rw [if_neg h]
  exact q
theorem ite_yes {c : Prop} [Decidable c] {P Q : Prop} (h : c) (p : P) : if c then P else Q := by
  rw [if_pos h]
  exact p
theorem nest_turn {g h9 : Heap} {L DT l7 I R D : Addr} {o7 it : Obj} {s : Shared} {R' : Result → Shared → Prop} {tk : Nat} {gs : Array GenState} {ws : Array Value} {k i : Nat} {tl base : List (Addr × Obj)} {xs : List Int} {x d : Int} {xx : Str} {t u tx : Tok} {ox : Option Value}
    (F9 : Fr g L h9 (fun y => if y = Str.ofString "x" then some (Value.int x tx) else fmA (.ref D) (.ref R) ox y))
    (N9 : News g L h9 ((DT, nestObj d xx t u) :: (l7, o7) :: (I, it) :: (R, W.listOf (ws.push (.ref DT)) (k + 1)) :: (tl ++ base)))
    (hb : AllBare gs) (hx : xs[i]? = some x) (hnb : nb x = (d, xx)) (hws : NestsAt tl ws.toList ((xs.take i).map nb)) (htl : ∀ p ∈ tl, @LT.lt Nat _ R p.1)
    (hoff : ∀ p ∈ (R, W.listOf ws k) :: (tl ++ base), p.1 ≠ I) (hI : @LT.lt Nat _ I DT) (hR : @LT.lt Nat _ R DT) :
    WalkOut g L I it (fun m₁ news₁ => ∃ ox ws k tl, m₁ = fmA (.ref D) (.ref R) ox ∧ news₁ = (R, W.listOf ws k) :: (tl ++ base) ∧ NestsAt tl ws.toList ((xs.take (i + 1)).map nb) ∧ (∀ p ∈ tl, @LT.lt Nat _ R p.1)) R' s .next { s with heap := h9, toks := tk, gens := gs } := by
  rw [fmA_x] at F9
  refine ⟨h9, tk, gs, _, (R, W.listOf (ws.push (.ref DT)) (k + 1)) :: (((DT, nestObj d xx t u) :: tl) ++ base), rfl, hb, F9, fun p hp => N9 p ?_, fun p hp => ?_, some (Value.int x tx), _, _, _, rfl, rfl, ?_, fun p hp => ?_⟩
  · simp only [List.mem_cons, List.cons_append] at hp ⊢
    rcases hp with hp | hp | hp | hp
    · exact .inr (.inr (.inl hp))
    · exact .inr (.inr (.inr (.inl hp)))
    · exact .inl hp
    · exact .inr (.inr (.inr (.inr hp)))
  · simp only [List.mem_cons, List.cons_append] at hp
    rcases hp with rfl | rfl | hp
    · exact hoff (R, W.listOf ws k) (.head _)
    · exact Nat.ne_of_gt hI
    · exact hoff p (.tail _ hp)
  · rw [Array.toList_push, List.take_add_one, hx]
    simp only [Option.toList_some, List.map_append, List.map_cons, List.map_nil, hnb]
    exact NestsAt.append (hws.mono fun p hp => .tail _ hp) ⟨⟨_, _, _, rfl, .head _⟩, trivial⟩
  · rcases List.mem_cons.mp hp with rfl | hp
    · exact hR
    · exact htl p hp
theorem final : PySem.Challenge.rw_rl0016_01.Holds := hd (by
  k_fill
  intro w s₀ s₁ mg mb G Y fa o pm cd doc dV kV ho hd hcd hD hmg hg args vals as hpre hlay hrd hwl hlo
  have KX := kIn_of Y
  have X := (Ground.X G).1
  have V := (Ground.X G).2
  refine Ground.open G ?_
  intro T B D TE TW
  try (refine guard_noD D (by decide +kernel) ?_; clear D)
  obtain ⟨_, _, M⟩ := bmod_of_top T
  have TA := at_of_top T
  (obtain ⟨_, _, he, B0⟩ := based_of_top T rfl hmg ho hd; have he' : cd = _ := he; subst he'; clear he)
  clear hmg
  wrow_args hpre hlay hrd hwl hlo
  first | refine callC_kw (enter_call ?_) | refine enter_call ?_ | refine callC_kw (enter_callW ?_) | refine enter_callW ?_ | w_how
  w_top on
  have K0 : Below callerA s₁.heap [] s₁.heap := below_caller (Top.heap T)
  w_call any ho hd hcd hD T F
  clear hd TA
  k_drop
  (try k_fold)
  clear hcd hD
  clear_value (hqk : qk = _) ek
  rename CellsAre _ _ _ => CA
  rename List Int => ns
  rename IntsAre _ _ => hI
  rename Heap.IsList _ _ _ => hL
  rename ¬ _ < _ => h63
  rename News _ _ _ _ => N
  rename Fr _ _ _ _ => F
  clear CA
  rename_i hA tkA o1 o2 d1 d2
  rename_i iL _ _ _
  replace F : Fr s₁.heap s₁.heap.objs.size _ (fun _ => none) := F
  replace d1 : o1.data = Data.cell none := d1
  replace d2 : o2.data = Data.cell (some (.ref _)) := d2
  (iterate 24 (first | (k_unfold; (try dsimp only)) | walk1 | (dsimp only; walk1)))
  dsimp only
  rename Fr _ _ _ _ => F2
  rename News _ _ _ _ => N2
  rename_i tk3 h3 oc d3
  have hcount : ∃ n : Nat, (3 + if ((ns.length : Nat) : Int).fdiv 2 < 1 then ((ns.length : Nat) : Int).fdiv 2 else 1) = (n : Int) ∧ 3 ≤ n ∧ n ≤ 4 := by
    have : ((ns.length : Nat) : Int).fdiv 2 = ((ns.length / 2 : Nat) : Int) := by
      rw [Int.fdiv_eq_ediv_of_nonneg _ (by decide)]; omega
    rw [this]
    by_cases h : ns.length / 2 = 0
    · exact ⟨3, by rw [h]; decide, by decide, by decide⟩
    · exact ⟨4, by rw [if_neg (by omega)]; rfl, by decide, by decide⟩
  obtain ⟨n, hn, hn3, hn4⟩ := hcount
  rw [hn] at d3
  dsimp only at d3
  (iterate 40 (first | (k_unfold; (try dsimp only)) | walk1 | (dsimp only; walk1)))
  · dsimp only
    rename Fr _ _ _ _ => F3
    rename News _ _ _ _ => N3
    refine sumK rfl F3 N3 (vs := (slicePick _ _ _ _).toList) ⟨_, (N3 _ (.head _)).1, rfl, _, rfl⟩ (hI.pick _ _ _) fun h4 tk4 t4 F4 N4 => ?_
    clear F3 N3
    dsimp only
    (iterate 4 (first | (k_unfold; (try dsimp only)) | walk1 | (dsimp only; walk1)))
  (iterate 8 (first | (k_unfold; (try dsimp only)) | walk1 | (dsimp only; walk1)))
  dsimp only
  rename Fr _ _ _ _ => F5
  rename News _ _ _ _ => N5
  rename IntsAre ys _ => hys
  rename ys.length = _ => hyl
  rename _ ∧ _ ∧ _ => hlt5
  rename_i D _ tk5 hDc R _ h5
  rw [fmA_start] at F5
  have hxl : ys.length = n := by rw [hyl, List.length_map, rangeKs, List.length_map, List.length_range]; omega
  clear hyl
  generalize List.map _ (rangeKs 0 _) = xs at hys
  refine wpAny_execs_cons (wpAny_For (wpAny_Name (wpAny_loadName_local rfl rfl F5.ns rfl ?_)) (fun _ => rfl))
  refine list_for (its := ys.toArray) (kl := ys.length) rfl (.tail _ (.head _)) (.inl ⟨_, _, rfl⟩) (AllBare.of_eq hg) F5 N5
    (fun i m₁ news₁ => ∃ ox ws k tl, m₁ = fmA (.ref D) (.ref R) ox ∧ news₁ = (R, W.listOf ws k) :: (tl ++ [(D, W.listOf ys.toArray ys.length), (s₁.heap.objs.size + 1 + 1, oc), (s₁.heap.objs.size + 1, o2)]) ∧ NestsAt tl ws.toList ((xs.take i).map nb) ∧ (∀ p ∈ tl, @LT.lt Nat _ R p.1)) ?_ ?_ ?_ ?_
  · exact ⟨none, #[], 0, [], rfl, rfl, trivial, fun _ h => nomatch h⟩
  · rintro i m₁ news₁ ⟨ox, ws, k, tl, rfl, rfl, _, _⟩
    simp
  · rintro I hIlt i v _ _ s₂ it hv ⟨ox, ws, k, tl, rfl, rfl, hws, htl⟩ hoff hs₂ hb₂ F6 N6
    obtain ⟨h6, tk6, gs6, rfl⟩ := hs₂
    obtain ⟨x, tx, rfl, hx⟩ := hys.at i v (by simpa using hv)
    have i1 : @LT.lt Nat _ R I := hIlt (R, W.listOf #[] 0) (.head _)
    clear hIlt hv F5 N5
    generalize hZ : WalkOut _ _ _ _ _ _ _ = Z
    refine wpAny_assign_Name ?_
    (iterate 44 (first | (k_unfold; (try dsimp only)) | walk1 | (dsimp only; walk1)))
    dsimp only
    rename Fr _ _ _ _ => F7
    rename News _ _ _ _ => N7
    rename _ ∧ _ ∧ AllLt _ _ => l7
    obtain ⟨um, hum⟩ := mid_item ((x.fdiv 4).fmod 4) (fmod4 _).1 (fmod4 _).2 _ _ _ _
    refine my_item ⟨_, (N7 _ (.head _)).1, rfl, _, rfl⟩ (fmod4 _).1 (Int.lt_trans (fmod4 _).2 (by decide)) hum ?_
    have hml := midS_len ((x.fdiv 4).fmod 4)
    have hx4 := fmod4 x
    have hRne : ∀ p ∈ tl ++ [(D, W.listOf ys.toArray ys.length), (s₁.heap.objs.size + 1 + 1, oc), (s₁.heap.objs.size + 1, o2)], p.1 ≠ R := fun p hp => by
      rcases List.mem_append.mp hp with hp | hp
      · exact Nat.ne_of_gt (htl p hp)
      · simp only [List.mem_cons, List.not_mem_nil, or_false] at hp
        rcases hp with rfl | rfl | rfl
        · exact Nat.ne_of_lt hlt5.1
        · exact Nat.ne_of_lt hlt5.2.1
        · exact Nat.ne_of_lt hlt5.2.2
    clear hum
    generalize hnb : nb x = nsx
    have hns := hnb
    unfold nb at hns
    generalize midS ((x.fdiv 4).fmod 4) = y at hml hns
    generalize um = um'
    (iterate 12 (first | (k_unfold; (try dsimp only)) | walk1 | (dsimp only; walk1)))
    dsimp only
    rename Fr _ _ _ _ => F8
    rename News _ _ _ _ => N8
    have hwl := hws.length
    have hwsz : ws.size ≤ 4 := by
      rw [Array.length_toList, List.length_map, List.length_take] at hwl
      have := hys.length
      omega
    rename _ ∧ _ ∧ _ ∧ AllLt _ _ => l8
    refine append_K F8 N8 (its := ws) (n := k) (.tail (Nat.ne_of_gt l8.2.2.1) (.tail (Nat.ne_of_gt l7.2.1) (.tail (Nat.ne_of_gt i1) (.head hRne)))) (fun h9 F9 N9 => ?_) (Nat.le_trans hwsz (by decide))
    refine wpAny_execs_nil ?_
    subst hZ
    subst hns
    exact nest_turn F9 N9 hb₂ hx hnb hws htl hoff l8.2.1 l8.2.2.1
  · rintro h6 tk6 gs6 _ _ hb6 F6 N6 ⟨ox, ws, k, tl, rfl, rfl, hws, htl⟩
    have htk : xs.take ys.toArray.size = xs := List.take_of_length_le (by rw [List.size_toArray, ← hys.length]; exact Nat.le_refl _)
    rw [htk] at hws
    clear htk F5 N5
    have hxn : xs.length = n := hys.length.symm.trans hxl
    dsimp only
    have hqs : NestsAt ((R, W.listOf ws k) :: (tl ++ [(D, W.listOf ys.toArray ys.length), (s₁.heap.objs.size + 1 + 1, oc), (s₁.heap.objs.size + 1, o2)])) ws.toList (xs.map nb) := hws.mono fun p hp => .tail _ (List.mem_append_left _ hp)
    clear hws
    have hB : Base (xs.map nb) := base_of (by omega) (by omega)
    have hb3 : ∀ q ∈ xs.map nb, 0 ≤ q.1 ∧ q.1 ≤ 100 := fun q hq => by
      have := hB.2.2.2 q hq
      omega
    have hsz : szB (xs.map nb) ≤ 100 := hB.sz
    have hqn : (xs.map nb).length = n := by rw [List.length_map]; exact hxn
    have hwz : ws.size = n := by
      have := hqs.length
      rw [hqn] at this
      simpa using this
    generalize xs.map nb = qs at hqs hb3 hsz hqn hB
    (iterate 6 (first | (k_unfold; (try dsimp only)) | walk1 | (dsimp only; walk1)))
    refine LCp.ListComp_P (F₀ := F6) (cl := []) (by with_unfolding_all rfl) (by decide) rfl (by decide) rfl rfl (by decide) ?_
    refine wpAny_Name (wpAny_loadName_local rfl rfl F6.ns rfl ?_)
    refine LCp.SrcLP.ledger rfl F6 N6 (.head _) (by rw [hwz, lineIs]; omega) (fun g => weights_rest rfl rfl hqs hb3 (.inr ⟨_, .head _, rfl, _, rfl⟩) (fun ys7 hys7 => ?_) ws.size 0 [] (by rw [hwz, hqn, Nat.zero_add]) .nil)
    intro D7 h7 tk7 F7 N7 off7
    dsimp only
    (iterate 1 (first | (k_unfold; (try dsimp only)) | walk1 | (dsimp only; walk1)))
    refine sumK rfl F7 N7 (vs := ys7) ⟨_, (N7 _ (.head _)).1, rfl, _, rfl⟩ hys7 fun h8 tk8 t8 F8 N8 => ?_
    rw [sum_wt]
    clear F7 N7 hys7 off7 F6 N6
    dsimp only
    (iterate 12 (first | (k_unfold; (try dsimp only)) | walk1 | (dsimp only; walk1)))
    dsimp only
    rename Fr _ _ _ _ => F9
    rename News _ _ _ _ => N9
    have hW : 0 < ((wt qs : Nat) : Int) := by
      have := hB.wt
      omega
    refine ⟨KX.keeps F9.keep, ?_⟩
    refine least_call (cl := cellsFrom (s₁.heap.objs.size + 1) _ []) K0 F9 KX N9 T ?hk ?h1 ?h2 hW fun t10 h10 tk10 F10 N10 => ?_
    case hk => rfl
    case h1 => decide
    case h2 => decide
    clear F8 N8 F9 N9
    (iterate 8 (first | (k_unfold; (try dsimp only)) | walk1 | (dsimp only; walk1)))
    dsimp only
    refine sumK rfl F10 N10 (vs := ys) ⟨_, (N10 (D, W.listOf ys.toArray ys.length) (by simp)).1, rfl, _, rfl⟩ hys fun h11 tk11 t11 F11 N11 => ?_
    clear F10 N10
    dsimp only
    (iterate 14 (first | (k_unfold; (try dsimp only)) | walk1 | (dsimp only; walk1)))
    try dsimp only
    rename Fr _ _ _ _ => F12
    rename News _ _ _ _ => N12
    rw [fmB_start] at F12
    dsimp only at F12
    refine wpAny_For ?_ (fun _ => rfl)
    (iterate 7 (first | (k_unfold; (try dsimp only)) | walk1 | (dsimp only; walk1)))
    refine ⟨KX.keeps F12.keep, ?_⟩
    have N13 : News s₁.heap s₁.heap.objs.size _ ((R, W.listOf ws k) :: (tl ++ [(D, W.listOf ys.toArray ys.length), (s₁.heap.objs.size + 1 + 1, oc), (s₁.heap.objs.size + 1, o2)])) := fun p hp => N12 p (.tail _ (.tail _ hp))
    clear N12
    have mR : (R, W.listOf ws k) ∈ (R, W.listOf ws k) :: (tl ++ [(D, W.listOf ys.toArray ys.length), (s₁.heap.objs.size + 1 + 1, oc), (s₁.heap.objs.size + 1, o2)]) := .head _
    generalize (R, W.listOf ws k) :: (tl ++ [(D, W.listOf ys.toArray ys.length), (s₁.heap.objs.size + 1 + 1, oc), (s₁.heap.objs.size + 1, o2)]) = led at N13 mR hqs
    clear htl hlt5 hDc
    refine ways_ok n (by omega) hn4 (cl := cellsFrom (s₁.heap.objs.size + 1) _ []) K0 F12 KX N13 T ?hk ?h0 ?h1 ?h2 hqn mR hqs hsz fun LW wv kW rs tlW h14 tk14 gs14 hb14 F14 N14 hltW mLW hwv hrs hwvs hwv0 => ?_
    case hk => rfl
    case h0 => exact hb6
    case h1 =>
      have : 1 + claimMargin + 1 + 2 * 4 + 12 < recursionLimit := by decide
      show 1 + claimMargin + 1 + 2 * n + 12 < recursionLimit
      omega
    case h2 =>
      have : 4 + 3 + 16 * 4 + 128 < cLine := by decide
      show 4 + 3 + 16 * n + 128 < cLine
      omega
    clear F12 N13
    (iterate 8 (first | (k_unfold; (try dsimp only)) | walk1 | (dsimp only; walk1)))
    refine ⟨KX.keeps F14.keep, ?_⟩
    have mR2 : (R, W.listOf ws k) ∈ tlW ++ led := List.mem_append_right _ mR
    have hqs2 : NestsAt (tlW ++ led) ws.toList qs := hqs.mono fun p hp => List.mem_append_right _ hp
    clear mR hqs hltW
    generalize tlW ++ led = led2 at N14 mLW hwv mR2 hqs2
    refine plain_call (cl := cellsFrom (s₁.heap.objs.size + 1) _ []) K0 F14 KX N14 T ?hk ?h1 ?h2 (by omega) (by omega) mR2 hqs2 hsz fun vP qP tlP h15 tk15 F15 N15 hltP hvP hqP => ?_
    case hk => rfl
    case h1 => decide
    case h2 => decide
    have mR3 : (R, W.listOf ws k) ∈ tlP ++ led2 := List.mem_append_right _ mR2
    have hqs3 : NestsAt (tlP ++ led2) ws.toList qs := hqs2.mono fun p hp => List.mem_append_right _ hp
    have mLW3 : (LW, W.listOf wv kW) ∈ tlP ++ led2 := List.mem_append_right _ mLW
    have hall : NestsAt (tlP ++ led2) (wv.toList ++ [vP]) (rs ++ [qP]) := NestsAt.append (hwv.mono fun p hp => List.mem_append_right _ hp) ⟨hvP, trivial⟩
    clear mR2 hqs2 hltP mLW hwv hvP F14 N14
    generalize tlP ++ led2 = led3 at N15 mR3 hqs3 mLW3 hall
    have hℓ : ∀ r ∈ rs ++ [qP], leastF ((wt qs : Nat) : Int) ≤ r.1 ∧ Good r ∧ r.1 ≤ 20 ∧ r.2.length ≤ 100 := hB.all hrs hqP
    have hℓ2 : 2 ≤ leastF ((wt qs : Nat) : Int) := hB.two
    have hP : ∀ q, Greedy qs q → q.1 = leastF ((wt qs : Nat) : Int) := fun q hq => hB.plain hq
    have hWb : ((wt qs : Nat) : Int).natAbs < 2 ^ 64 := by
      have := hB.wt
      rw [Int.natAbs_natCast]
      omega
    have hsh : leastF (((wt qs : Nat) : Int) * 2 ^ (xs.sum.fmod 1000).toNat) = leastF ((wt qs : Nat) : Int) + xs.sum.fmod 1000 := hB.shift (Int.fmod_nonneg_of_pos _ (by decide))
    (iterate 2 (first | (k_unfold; (try dsimp only)) | walk1 | (dsimp only; walk1)))
    dsimp only
    rename Fr _ _ _ _ => F16
    rename News _ _ _ _ => N16
    refine add_arrays F16 N16 (l := LW) (its := wv) (its2 := #[vP]) ⟨_, (N16 (LW, W.listOf wv kW) (.tail _ mLW3)).1, rfl, _, rfl⟩ ⟨_, (N16 _ (.head _)).1, rfl, _, rfl⟩ (fun h17 F17 N17 => ?_) ?hsize
    case hsize =>
      have : 16 ^ n ≤ 16 ^ 4 := Nat.pow_le_pow_right (by decide) hn4
      have e16 : 16 ^ 4 = 65536 := by decide
      show wv.size + 1 ≤ sizeLine
      rw [lineIs]
      omega
    dsimp only
    clear F16 N16
    have hdd : 0 ≤ xs.sum.fmod 1000 ∧ xs.sum.fmod 1000 < 1000 := ⟨Int.fmod_nonneg_of_pos _ (by decide), Int.fmod_lt_of_pos _ (by decide)⟩
    generalize xs.sum.fmod 1000 = dd at F17 hsh hdd
    generalize hlst : leastF ((wt qs : Nat) : Int) = lst at F17 hsh hP hℓ hℓ2
    refine list_for (its := (wv.toList ++ #[vP].toList).toArray) (kl := 0) rfl (.head _) (.inr ⟨_, _, _, rfl⟩) hb14 F17 N17
      (fun i m₁ news₁ => ∃ od ot, m₁ = fmB (.ref D) (.ref R) ox (.int ((wt qs : Nat) : Int) t8) (.int lst t10) (.int dd (tk11 + 1)) od ot ∧ news₁ = (_, W.listOf (wv.toList ++ #[vP].toList).toArray 0) :: (_, W.listOf #[vP] 0) :: led3) ⟨none, none, rfl, rfl⟩ ?_ ?_ ?_
    · rintro i m₁ news₁ ⟨od, ot, rfl, rfl⟩
      exact .head _
    · rintro I hIlt i v _ _ s₂ it hv ⟨od, ot, rfl, rfl⟩ hoff hs₂ hb₂ F18 N18
      obtain ⟨h18, tk18, gs18, rfl⟩ := hs₂
      obtain ⟨r, hr, aT, tT, uT, rfl, mT⟩ := hall.atV (v := v) (i := i) (by simpa using hv)
      obtain ⟨r1, r2, r3, r4⟩ := hℓ r hr
      clear hIlt hv F17 N17
      generalize hZ : WalkOut _ _ _ _ _ _ _ = Z
      refine assign_pair rfl F18 N18 (x := .int r.1 tT) (y := .str r.2 uT) ⟨_, (N18 (aT, nestObj r.1 r.2 tT uT) (.tail _ (.tail _ (.tail _ mT)))).1, rfl, _, rfl⟩ rfl rfl rfl fun h19 tk19 F19 N19 => ?_
      rw [fmB_dt] at F19
      clear F18 N18
      dsimp only
      (iterate 29 (first | (k_unfold; (try dsimp only)) | walk1 | (dsimp only; walk1)))
      rename Fr _ _ _ _ => F20
      rename News _ _ _ _ => N20
      refine ⟨KX.keeps F20.keep, ?_⟩
      refine check_call (cl := cellsFrom (s₁.heap.objs.size + 1) _ []) (x := wr r.1 r.2) K0 F20 KX N20 T ?hk ?h0 ?h1 ?h2 (wr_size (by omega) r3 r4) fun h21 tk21 gs21 F21 N21 hb21 => ?_
      case hk => rfl
      case h0 => exact hb₂
      case h1 => decide
      case h2 => decide
      have e21 : chkF (wr r.1 r.2) = true := by
        rw [wr_chk r2 (by omega)]
        exact decide_eq_true (Int.le_refl _)
      rw [e21]
      clear e21
      clear F20 N20
      dsimp only
      (iterate 34 (first | (k_unfold; (try dsimp only)) | walk1 | (dsimp only; walk1)))
      rename Fr _ _ _ _ => F22
      rename News _ _ _ _ => N22
      refine ⟨KX.keeps F22.keep, ?_⟩
      refine check_call (cl := cellsFrom (s₁.heap.objs.size + 1) _ []) (x := wr (r.1 - 1) r.2) K0 F22 KX N22 T ?hk ?h0 ?h1 ?h2 (wr_size (by omega) (by omega) r4) fun h23 tk23 gs23 F23 N23 hb23 => ?_
      case hk => rfl
      case h0 => exact hb21
      case h1 => decide
      case h2 => decide
      have e23 : chkF (wr (r.1 - 1) r.2) = false := by
        rw [wr_chk r2 (by omega)]
        exact decide_eq_false (by omega)
      rw [e23]
      clear e23
      clear F22 N22
      dsimp only
      (iterate 3 (first | (k_unfold; (try dsimp only)) | walk1 | (dsimp only; walk1)))
      refine ite_no (by decide) ?_
      refine wpAny_execs_nil (wpAny_execs_nil ?_)
      subst hZ
      refine ⟨h23, _, gs23, _, _, rfl, hb23, F23, N23, hoff, some (.int r.1 tT), some (.str r.2 uT), rfl, rfl⟩
    · rintro h18 tk18 gs18 _ _ hb18 F18 N18 ⟨od, ot, rfl, rfl⟩
      clear F17 N17
      dsimp only
      (iterate 12 (first | (k_unfold; (try dsimp only)) | walk1 | (dsimp only; walk1)))
      refine plain_call (cl := cellsFrom (s₁.heap.objs.size + 1) _ []) K0 F18 KX N18 T ?hk ?h1 ?h2 (by omega) (by omega) (.tail _ (.tail _ mR3)) (hqs3.mono fun p hp => .tail _ (.tail _ hp)) hsz fun v2 q2 tl2 h19 tk19 F19 N19 hlt2 hv2 hq2 => ?_
      case hk => rfl
      case h1 => decide
      case h2 => decide
      have hP2 := hP q2 hq2
      obtain ⟨a2, t2, u2, rfl, m2⟩ := hv2
      clear hq2 hlt2
      (iterate 1 (first | (k_unfold; (try dsimp only)) | walk1 | (dsimp only; walk1)))
      refine item_tupleT (l := [.int q2.1 t2, .str q2.2 u2]) (j := 0) (x := .int lst t2) ⟨_, (N19 _ m2).1, rfl, _, rfl⟩ (by decide) (by decide) rfl (by rw [hP2]; rfl) ?_
      clear m2 hP2
      (iterate 3 (first | (k_unfold; (try dsimp only)) | walk1 | (dsimp only; walk1)))
      refine ite_yes (beq_self_eq_true _) ?_
      dsimp only
      (iterate 9 (first | (k_unfold; (try dsimp only)) | walk1 | (dsimp only; walk1)))
      try dsimp only
      refine lshift_int_small hdd.1 (by omega) hWb ?_
      (iterate 1 (first | (k_unfold; (try dsimp only)) | walk1 | (dsimp only; walk1)))
      refine ⟨KX.keeps F19.keep, ?_⟩
      refine least_call (cl := cellsFrom (s₁.heap.objs.size + 1) _ []) K0 F19 KX N19 T ?hk ?h1 ?h2 (Int.mul_pos hW (Int.pow_pos (by decide))) fun t20 h20 tk20 F20 N20 => ?_
      case hk => rfl
      case h1 => decide
      case h2 => decide
      rw [hsh]
      clear F19 N19 F18 N18
      dsimp only
      (iterate 5 (first | (k_unfold; (try dsimp only)) | walk1 | (dsimp only; walk1)))
      rw [beq_self_eq_true, hqk]
      refine ⟨.inl ⟨_, .bool true, [], rfl, ?hraise, ReadsW.bool true, ?hpost, fun _ => ⟨List.nodup_nil, fun _ hm => nomatch hm⟩⟩, .of_keep F20.keep, rfl, hb18⟩
      case hraise => exact raisesW_false (by wrow_none_raised)
      case hpost => wrow_post

  )
end Mine

set_option maxRecDepth 100000 in
set_option maxHeartbeats 8000000 in
theorem PySem.Challenge.cw_rl0016_01_holds : PySem.Challenge.rw_rl0016_01.Holds := by
  exact Mine.final
